import Derived.Test.Qxb6601392aGrowU
import Derived.Test.Qxb6601392aGrowF
import Derived.Test.Qxb6601392aGrowG
import Derived.Test.Qxb6601392aGrowH
namespace Go.Proofs.Qxb6601392a.Bt
open Go.RowKit

/-- where grow merges -/
def Cond3 (w : World) (lb i i2 i3 nr : Nat) (I : List It) (bs : List Nat) : Prop :=
  (∃ j zb Az nz cz, i = i2 ∧ i2 = j + 1 ∧ bs[j]? = some zb ∧ w.cell? ⟨zb, 1, none⟩ = some (.slice Az nz cz) ∧ nz ≤ 31 ∧ nr ≤ 31) ∨ (∃ Az nz cz, i = i3 ∧ i3 = I.length ∧ w.cell? ⟨lb, 1, none⟩ = some (.slice Az nz cz) ∧ nz ≤ 31) ∨ (i = i2 ∧ i2 = 0 ∧ nr ≤ 31)

theorem grow3_raw {w : World} {b o p g cap gc cc : Nat} {I : List It} {bs : List Nat} (W : Tri w b o p g cap gc cc I bs) (i i2 i3 : Nat) (h23 : i3 = i2 + 1) (x : It) (hx : I[i2]? = some x) (hxv : x.v.size ≤ 1048576) (lb rb : Nat) (hlb : bs[i2]? = some lb) (hrb : bs[i3]? = some rb) (hn : I.length ≤ 10000) (hbn : bs.length = I.length + 1)
    (owr gr nr cr ncr ccr pr : Nat) (Acr : Option Addr) (Ir : List It) (bsr : List Nat) (hr : NodeAt w rb owr (.slice (some ⟨gr, 0, none⟩) nr cr) (.slice Acr ncr ccr) pr) (hrI : OwnI w (.slice (some ⟨gr, 0, none⟩) nr cr) Ir) (hrC : OwnC w (.slice Acr ncr ccr) bsr)
    (h0 : Cond3 w lb i i2 i3 nr I bs)
    (Il : List It) (bsl : List Nat) (pl pl' : Nat) (hpl : pl' = pl + (1 + pr)) (hpl2 : pl' ≤ 4611686018427387904) (hsz : Il.length + Ir.length ≤ 5000) (hsz2 : bsl.length + bsr.length ≤ 5000)
    (M : World → Nat → Value → Value → Prop) (hmut : ∀ w1, Below w.heap.size w w1 → Calls Try.prog 37 #[.pointer (some ⟨lb, 0, none⟩), .pointer (some ⟨o, 0, none⟩)] w1 fun e w2 => ∃ lb' Al nl cl Acl ncl ccl, e = .returned (.pointer (some ⟨lb', 0, none⟩)) ∧ M w2 lb' (.slice Al nl cl) (.slice Acl ncl ccl) ∧ Keeps (fun _ => False) w1 w2 ∧
      Way w2 w2 lb' o (.slice Al nl cl) (.slice Acl ncl ccl) (.slice Al nl cl) (.slice Acl ncl ccl) pl Il bsl ∧ ∀ k, (k = b ∨ k = g ∨ k = gc ∨ k = rb ∨ k = gr ∨ (Value.slice Acr ncr ccr).ownBlock = some k) → k ≠ lb' ∧ (Value.slice Al nl cl).ownBlock ≠ some k ∧ (Value.slice Acl ncl ccl).ownBlock ≠ some k) :
    Calls Try.prog 44 #[.pointer (some ⟨b, 0, none⟩), .int .i64 (i : Int), .pointer (some ⟨o, 0, none⟩)] w fun e w' => e = .returned (.tuple #[]) ∧ ∃ w2 lb' ivl cvl ivl' cvl' iv' cv', M w2 lb' ivl cvl ∧ Keeps (fun _ => False) w w2 ∧ Merged w2 w' b o p g gc lb' pl' i2 i3 ivl cvl ivl' cvl' iv' cv' (Il ++ x :: Ir) I (bsl ++ bsr) bs := by
  rcases h0 with ⟨j, zb, Az, nz, cz, rfl, hj, hzb, hz, hnz, hnr⟩ | ⟨Az, nz, cz, rfl, hl, hz, hnz⟩ | ⟨rfl, h0, hnr⟩
  · exact grow3a_raw W i i3 h23 x hx hxv lb rb hlb hrb hn hbn owr gr nr cr ncr ccr pr Acr Ir bsr hr hrI hrC j zb Az nz cz hj hzb hz hnz hnr Il bsl pl pl' hpl hpl2 hsz hsz2 M hmut
  · exact grow3b_raw W i2 i h23 x hx hxv lb rb hlb hrb hn hbn owr gr nr cr ncr ccr pr Acr Ir bsr hr hrI hrC Az nz cz hl hz hnz Il bsl pl pl' hpl hpl2 hsz hsz2 M hmut
  · exact grow3c_raw W i i3 h23 x hx hxv lb rb hlb hrb hn hbn owr gr nr cr ncr ccr pr Acr Ir bsr hr hrI hrC h0 hnr Il bsl pl pl' hpl hpl2 hsz hsz2 M hmut

theorem grow3_any {w : World} {o B d : Nat} {c : Ch} {iv cv : Value} {I : List It} {A C : List Ch} {l0 r0 : Ch} (H : NodeO w o B d c iv cv I (A ++ [l0, r0] ++ C)) (hB : B ≤ w.heap.size) (ho : OwnerAt w o) (hs : Sorted c.L) (hok : ∀ y ∈ c.L, y.ok) (hlen : c.L.length ≤ 1000000000) (hI : I.length ≤ 63) (hl : l0.m ≤ 31) (hr : r0.m ≤ 31)
    (i i2 i3 : Nat) (hA : A.length = i2) (h23 : i3 = i2 + 1) (hi : (i = i2 ∧ ∀ q ∈ A.getLast?, q.m ≤ 31) ∨ (i = i3 ∧ i3 = I.length)) :
    Calls Try.prog 44 #[.pointer (some ⟨c.b, 0, none⟩), .int .i64 (i : Int), .pointer (some ⟨o, 0, none⟩)] w fun e w' => e = .returned (.tuple #[]) ∧ Grown w w' o B d c I i := by
  have hol : o < w.heap.size := (Array.getElem?_eq_some_iff.1 ho).1
  have hlm : l0 ∈ A ++ [l0, r0] ++ C := by simp
  have hrm : r0 ∈ A ++ [l0, r0] ++ C := by simp
  have hlR := H.R l0 hlm
  have hrR := H.R r0 hrm
  have hld := H.kd l0 hlm
  have hrd := H.kd r0 hrm
  have hlz := H.z l0 hlm
  have hrz := H.z r0 hrm
  have hlen2 := H.len
  have hkl : (A ++ [l0, r0] ++ C).length = i2 + 2 + C.length := by simp; omega
  have hlk : ((A ++ [l0, r0] ++ C).map Ch.L).length = I.length + 1 := by rw [List.length_map]; exact H.len
  obtain ⟨x, hx⟩ : ∃ x, I[i2]? = some x := ⟨_, List.getElem?_eq_getElem (by omega)⟩
  have hxm : x ∈ c.L := by rw [H.L]; exact weave_mem_I hlk (List.mem_of_getElem? hx)
  have hlb : ((A ++ [l0, r0] ++ C).map Ch.b)[i2]? = some l0.b := by rw [← hA]; simp
  have hrb : ((A ++ [l0, r0] ++ C).map Ch.b)[i3]? = some r0.b := by
    rw [h23, ← hA]
    simp
  obtain ⟨g, cap, rfl, _⟩ := H.is.at hx
  obtain ⟨gc, cc, rfl, _⟩ := OwnC.at H.cs hlb
  have gF : c.F g := (H.F g).2 (.inr (.inl rfl))
  have gcF : c.F gc := (H.F gc).2 (.inr (.inr (.inl rfl)))
  have bF : c.F c.b := (H.F c.b).2 (.inl rfl)
  have hlt : ∀ y, c.F y → y < w.heap.size := H.rep.lt
  have hlF : ∀ y, l0.F y → c.F y := fun y hy => (H.F y).2 (.inr (.inr (.inr ⟨l0, hlm, hy⟩)))
  have hrF : ∀ y, r0.F y → c.F y := fun y hy => (H.F y).2 (.inr (.inr (.inr ⟨r0, hrm, hy⟩)))
  have hlr : ∀ y, l0.F y → ¬ r0.F y := by
    have := (List.pairwise_append.1 (List.pairwise_append.1 H.kk).1).2.1
    exact (List.pairwise_cons.1 this).1 r0 (by simp)
  have hnl : ∀ k, k = c.b ∨ k = g ∨ k = gc → ¬ l0.F k ∧ ¬ r0.F k ∧ k < w.heap.size ∧ B ≤ k := by
    rintro k (rfl | rfl | rfl)
    · exact ⟨hld.1, hrd.1, hlt _ bF, (H.FB _ bF).1⟩
    · exact ⟨hld.2.1 _ rfl, hrd.2.1 _ rfl, hlt _ gF, (H.FB _ gF).1⟩
    · exact ⟨hld.2.2 _ rfl, hrd.2.2 _ rfl, hlt _ gcF, (H.FB _ gcF).1⟩
  have W : Tri w c.b o c.L.length g cap gc cc I ((A ++ [l0, r0] ++ C).map Ch.b) := ⟨H.n, H.is, H.cs, fun e => H.ib (by rw [← e]; rfl), fun e => H.cb (by rw [← e]; rfl), fun e => H.ic g rfl (by rw [e]; rfl)⟩
  have hsubl : l0.L.Sublist c.L := by rw [H.L]; exact weave_kid_sub I _ hlk l0.L (List.mem_map.2 ⟨l0, hlm, rfl⟩)
  have hsubr : r0.L.Sublist c.L := by rw [H.L]; exact weave_kid_sub I _ hlk r0.L (List.mem_map.2 ⟨r0, hrm, rfl⟩)
  have hll := hsubl.length_le
  have hrl := hsubr.length_le
  have hi' : i = i2 ∨ (i = i3 ∧ i3 = I.length) := hi.elim (fun h => .inl h.1) .inr
  -- where the walk goes
  have hcond : ∀ nr, nr ≤ 31 → Cond3 w l0.b i i2 i3 nr I ((A ++ [l0, r0] ++ C).map Ch.b) := by
    intro nr hnr
    rcases hi with ⟨rfl, hq⟩ | ⟨rfl, h3⟩
    · by_cases hAe : A = []
      · exact .inr (.inr ⟨rfl, by rw [← hA, hAe]; rfl, hnr⟩)
      · obtain ⟨A', q, rfl⟩ := snoc hAe
        have hqm : q ∈ (A' ++ [q]) ++ [l0, r0] ++ C := by simp
        obtain ⟨_, ivq, _, Iq, qn, qi, qil⟩ := (H.R q hqm).node
        obtain ⟨Aq, cq, rfl, _, _⟩ := qi.form
        have := hq q (by simp)
        exact .inl ⟨A'.length, q.b, Aq, Iq.length, cq, rfl, by rw [← hA]; simp, by simp, qn.c1, by omega, hnr⟩
    · obtain ⟨_, ivq, _, Iq, qn, qi, qil⟩ := hlR.node
      obtain ⟨Aq, cq, rfl, _, _⟩ := qi.form
      exact .inr (.inl ⟨Aq, Iq.length, cq, rfl, h3, qn.c1, by omega⟩)
  have hxv : x.v.size ≤ 1048576 := (hok x hxm).2
  -- who owns what: a block of r0 is none of l0's
  have hdis : ∀ k, (k < B ∨ r0.F k) → ¬ l0.F k := by
    rintro k (h | h) h'
    · have := (H.FB k (hlF k h')).1; omega
    · exact hlr k h' h
  cases d with
  | zero =>
    obtain ⟨owr, ivr, cvr, rn, ri, rc, rm, rf⟩ := hrR
    obtain ⟨y0, hy0⟩ : ∃ y0, r0.L[0]? = some y0 := ⟨_, List.getElem?_eq_getElem (by omega)⟩
    obtain ⟨gr, cr, rfl, _⟩ := ri.at hy0
    obtain ⟨Acr, ccr, rfl, _, _⟩ := rc.form
    have hfb := rf.blocks
    have hlm0 : l0.m = l0.L.length := by obtain ⟨_, _, _, _, _, _, e, _⟩ := hlR; exact e
    have hrbl := rn.lt
    have hgrl := ri.blk gr rfl
    refine (grow3_raw W i i2 i3 h23 x hx hxv l0.b r0.b hlb hrb (by omega) (by rw [List.length_map]; omega) owr gr r0.L.length cr _ ccr r0.L.length Acr r0.L [] rn ri rc (hcond _ (by omega)) l0.L [] l0.L.length (l0.L.length + (1 + r0.L.length)) rfl (by omega) (by omega) (by simp)
      (fun w2 lb' ivl cvl => ∃ l' : Ch, lb' = l'.b ∧ LeafO w2 o B l' ivl cvl ∧ l'.L = l0.L ∧ (∀ y, l'.F y → l0.F y ∨ w.heap.size ≤ y)) (fun w1 hb1 => ?_)).mono ?_
    · have hs1 := hb1.size
      refine (mutable_leaf (hlR.low hB hb1) (by omega) ((hb1.block o hol).trans ho) (by omega)).mono ?_
      rintro e w2 ⟨l', iv', cv', rfl, q1, q2, q3, q4, q5⟩
      obtain ⟨Al, cl, rfl, _, _⟩ := q1.way.i.form
      obtain ⟨Acl, ccl, rfl, _, _⟩ := q1.way.c.form
      have hF' : ∀ y, l'.F y → l0.F y ∨ w.heap.size ≤ y := fun y hy => by
        rcases q4 y hy with h | h
        · exact .inl h
        · exact .inr (by omega)
      have hW := q1.way
      rw [q2] at hW
      refine ⟨l'.b, Al, _, cl, Acl, _, ccl, rfl, ⟨l', rfl, q1, q2, hF'⟩, q5, by rw [q2]; exact hW, fun k hk => ?_⟩
      have hk2 : k < w.heap.size ∧ ¬ l0.F k := by
        rcases hk with h | h | h | h | h | h
        · exact ⟨(hnl k (by simp [h])).2.2.1, (hnl k (by simp [h])).1⟩
        · exact ⟨(hnl k (by simp [h])).2.2.1, (hnl k (by simp [h])).1⟩
        · exact ⟨(hnl k (by simp [h])).2.2.1, (hnl k (by simp [h])).1⟩
        · exact ⟨by omega, hdis k (by rw [h]; exact hfb.1)⟩
        · exact ⟨by omega, hdis k (by rw [h]; exact hfb.2.1 gr rfl)⟩
        · exact ⟨rc.blk k h, hdis k (hfb.2.2.1 k h)⟩
      have hk3 : ¬ l'.F k := fun e => by
        rcases hF' k e with h | h
        · exact hk2.2 h
        · omega
      exact ⟨fun e => hk3 ((q1.F k).2 (.inl e)), fun e => hk3 ((q1.F k).2 (.inr (.inl e))), fun e => hk3 ((q1.F k).2 (.inr (.inr e)))⟩
    · rintro e w' ⟨rfl, w2, lb', ivl, cvl, ivl', cvl', iv', cv', ⟨l', rfl, q1, q2, q3⟩, k02, hM⟩
      have hs2 := k02.size
      have hlF' : ∀ k, (k = l'.b ∨ ivl.ownBlock = some k ∨ cvl.ownBlock = some k) → l0.F k ∨ w.heap.size ≤ k := fun k hk => q3 k ((q1.F k).2 hk)
      have hFF : ∀ y, (y = l'.b ∨ ivl'.ownBlock = some y ∨ cvl'.ownBlock = some y) → l0.F y ∨ w.heap.size ≤ y := by
        rintro y (h | h | h)
        · exact hlF' y (.inl h)
        · rcases (hM.lib y h).1 with e | e
          · exact hlF' y (.inr (.inl e))
          · exact .inr (by omega)
        · rcases (hM.lcb y h).1 with e | e
          · exact hlF' y (.inr (.inr e))
          · exact .inr (by omega)
      refine ⟨rfl, merge_parent (mg := ⟨l'.b, (l0.L ++ x :: r0.L).length, l0.L ++ x :: r0.L, fun y => y = l'.b ∨ ivl'.ownBlock = some y ∨ cvl'.ownBlock = some y, false⟩) H hB hol hs i2 i3 hA h23 x hx k02 hM rfl ?_ ?_ rfl (fun y hy => (hFF y hy).elim (fun e => .inl (.inl e)) .inr) hlF' i hi'⟩
      · refine ⟨o, ivl', cvl', ?_, hM.li, hM.lc, rfl, .inr ⟨rfl, rfl, fun y => by simp, fun y hy => ?_, fun e => (hM.lib _ e).2 rfl, fun e => (hM.lcb _ e).2 rfl, fun y hy hy' => hM.lic y hy' hy, fun k hk => (by cases hk), List.Pairwise.nil⟩⟩
        · have := hM.ln
          have e : (l0.L ++ x :: r0.L).length = l0.L.length + (1 + r0.L.length) := by simp; omega
          show NodeAt w' l'.b o ivl' cvl' (l0.L ++ x :: r0.L).length
          rw [e]; exact this
        · rcases hFF y hy with h | h
          · exact H.FB y (hlF y h)
          · omega
      · show (l0.L ++ x :: r0.L).length = 63
        simp; omega
  | succ d =>
    obtain ⟨owr, ivr, cvr, Ir, ksr, rn, ri, rc, rlen, rm, rL, rR, rz, rf⟩ := hrR
    obtain ⟨owl, ivl0, cvl0, Il, ksl, ln, li, lc, llen, lm, lL, lR, lz, lf⟩ := hlR
    obtain ⟨y0, hy0⟩ : ∃ y0, Ir[0]? = some y0 := ⟨_, List.getElem?_eq_getElem (by omega)⟩
    obtain ⟨gr, cr, rfl, _⟩ := ri.at hy0
    obtain ⟨Acr, ccr, rfl, _, _⟩ := rc.form
    have hfb := rf.blocks
    have hrbl := rn.lt
    have hgrl := ri.blk gr rfl
    have hrkF : ∀ k ∈ ksr, ∀ y, k.F y → r0.F y := fun k hk y hy => by
      rcases hfb.2.2.2 k hk y hy with h | h
      · exact h
      · exact absurd hy ((rR k hk).frozenF h y)
    refine (grow3_raw W i i2 i3 h23 x hx hxv l0.b r0.b hlb hrb (by omega) (by rw [List.length_map]; omega) owr gr Ir.length cr _ ccr r0.L.length Acr Ir (ksr.map Ch.b) rn ri rc (hcond _ (by omega)) Il (ksl.map Ch.b) l0.L.length (l0.L.length + (1 + r0.L.length)) rfl (by omega) (by omega) (by simp; omega)
      (fun w2 lb' ivl cvl => ∃ l' : Ch, lb' = l'.b ∧ NodeO w2 o B d l' ivl cvl Il ksl ∧ (∀ y, l'.F y → l0.F y ∨ w.heap.size ≤ y)) (fun w1 hb1 => ?_)).mono ?_
    · have hs1 := hb1.size
      refine (mutable_node (ln.of_block (hb1.block _ ln.lt)) (li.of_block (fun k hk => hb1.block k (li.blk k hk))) (lc.of_block (fun k hk => hb1.block k (lc.blk k hk))) llen lm lL (fun k hk => Rep.low (lR k hk) hB hb1) lz (lf.keep (fun y hy => hb1.block y (by omega))) (by omega) ((hb1.block o hol).trans ho) (by omega)).mono ?_
      rintro e w2 ⟨l', iv', cv', rfl, q1, q2, q3, q4, q5, q6, q7, q8⟩
      obtain ⟨Al, cl, rfl, _, _⟩ := q1.is.form
      obtain ⟨Acl, ccl, rfl, _, _⟩ := q1.cs.form
      have hF' : ∀ y, l'.F y → l0.F y ∨ w.heap.size ≤ y := fun y hy => by
        rcases q4 y hy with h | h
        · exact .inl h
        · exact .inr (by omega)
      have hW := q1.way
      rw [q2] at hW
      refine ⟨l'.b, Al, _, cl, Acl, _, ccl, rfl, ⟨l', rfl, q1, hF'⟩, q8, hW, fun k hk => ?_⟩
      have hk2 : k < w.heap.size ∧ ¬ l0.F k := by
        rcases hk with h | h | h | h | h | h
        · exact ⟨(hnl k (by simp [h])).2.2.1, (hnl k (by simp [h])).1⟩
        · exact ⟨(hnl k (by simp [h])).2.2.1, (hnl k (by simp [h])).1⟩
        · exact ⟨(hnl k (by simp [h])).2.2.1, (hnl k (by simp [h])).1⟩
        · exact ⟨by omega, hdis k (by rw [h]; exact hfb.1)⟩
        · exact ⟨by omega, hdis k (by rw [h]; exact hfb.2.1 gr rfl)⟩
        · exact ⟨rc.blk k h, hdis k (hfb.2.2.1 k h)⟩
      have hk3 : ¬ l'.F k := fun e => by
        rcases hF' k e with h | h
        · exact hk2.2 h
        · omega
      exact ⟨fun e => hk3 ((q1.F k).2 (.inl e)), fun e => hk3 ((q1.F k).2 (.inr (.inl e))), fun e => hk3 ((q1.F k).2 (.inr (.inr (.inl e))))⟩
    · rintro e w' ⟨rfl, w2, lb', ivl, cvl, ivl', cvl', iv', cv', ⟨l', rfl, q1, q3⟩, k02, hM⟩
      have hs2 := k02.size
      have hlF' : ∀ k, (k = l'.b ∨ ivl.ownBlock = some k ∨ cvl.ownBlock = some k) → l0.F k ∨ w.heap.size ≤ k := fun k hk => q3 k ((q1.F k).2 (by
        rcases hk with h | h | h
        · exact .inl h
        · exact .inr (.inl h)
        · exact .inr (.inr (.inl h))))
      have hFF : ∀ y, (y = l'.b ∨ ivl'.ownBlock = some y ∨ cvl'.ownBlock = some y) → (y = l'.b ∨ ivl.ownBlock = some y ∨ cvl.ownBlock = some y) ∨ w2.heap.size ≤ y := by
        rintro y (h | h | h)
        · exact .inl (.inl h)
        · rcases (hM.lib y h).1 with e | e
          · exact .inl (.inr (.inl e))
          · exact .inr e
        · rcases (hM.lcb y h).1 with e | e
          · exact .inl (.inr (.inr e))
          · exact .inr e
      have hlk' : ∀ k ∈ ksl, ∀ y, k.F y → l'.F y := fun k hk y hy => (q1.F y).2 (.inr (.inr (.inr ⟨k, hk, hy⟩)))
      have hlk0 : ∀ k ∈ ksl, ∀ y, k.F y → l0.F y ∨ w.heap.size ≤ y := fun k hk y hy => q3 y (hlk' k hk y hy)
      have hlkd : ∀ k ∈ ksl, ∀ y, k.F y → ¬ (y = l'.b ∨ ivl.ownBlock = some y ∨ cvl.ownBlock = some y) := by
        rintro k hk y hy (h | h | h)
        · exact (q1.kd k hk).1 (h ▸ hy)
        · exact (q1.kd k hk).2.1 y h hy
        · exact (q1.kd k hk).2.2 y h hy
      have hKB : ∀ y, (y = c.b ∨ y = g ∨ y = gc ∨ y = l'.b ∨ ivl.ownBlock = some y ∨ cvl.ownBlock = some y) → B ≤ y := by
        rintro y (h | h | h | h)
        · exact (hnl y (by simp [h])).2.2.2
        · exact (hnl y (by simp [h])).2.2.2
        · exact (hnl y (by simp [h])).2.2.2
        · rcases hlF' y h with h1 | h1
          · exact (H.FB y (hlF y h1)).1
          · omega
      have hR1 : ∀ k ∈ ksl, Rep w' o B d k := fun k hk => (q1.R k hk).keeps hM.keep (by omega) hKB (fun y hy e => by
        rcases e with h | h | h | h
        · rcases hlk0 k hk y hy with h1 | h1
          · exact (hnl y (by simp [h])).1 h1
          · have := (hnl y (by simp [h])).2.2.1; omega
        · rcases hlk0 k hk y hy with h1 | h1
          · exact (hnl y (by simp [h])).1 h1
          · have := (hnl y (by simp [h])).2.2.1; omega
        · rcases hlk0 k hk y hy with h1 | h1
          · exact (hnl y (by simp [h])).1 h1
          · have := (hnl y (by simp [h])).2.2.1; omega
        · exact hlkd k hk y hy h)
      have hR2 : ∀ k ∈ ksr, Rep w' o B d k := fun k hk => (Rep.low (rR k hk) hB (keeps_false_below k02)).keeps hM.keep (by omega) hKB (fun y hy e => by
        have hy' := hrkF k hk y hy
        rcases e with h | h | h | h
        · exact (hnl y (by simp [h])).2.1 hy'
        · exact (hnl y (by simp [h])).2.1 hy'
        · exact (hnl y (by simp [h])).2.1 hy'
        · rcases hlF' y h with h1 | h1
          · exact hlr y h1 hy'
          · have := hlt y (hrF y hy'); omega)
      have hgL : (l0.L ++ x :: r0.L).length = l0.L.length + (1 + r0.L.length) := by simp; omega
      have hall : ∀ y, (y = l'.b ∨ ivl'.ownBlock = some y ∨ cvl'.ownBlock = some y ∨ ∃ k ∈ ksl ++ ksr, k.F y) → (l0.F y ∨ r0.F y) ∨ w.heap.size ≤ y := by
        have h3 : ∀ y, (y = l'.b ∨ ivl'.ownBlock = some y ∨ cvl'.ownBlock = some y) → (l0.F y ∨ r0.F y) ∨ w.heap.size ≤ y := fun y h => by
          rcases hFF y h with h1 | h1
          · exact (hlF' y h1).elim (fun e => .inl (.inl e)) .inr
          · exact .inr (by omega)
        rintro y (h | h | h | ⟨k, hk, h⟩)
        · exact h3 y (.inl h)
        · exact h3 y (.inr (.inl h))
        · exact h3 y (.inr (.inr h))
        · rcases List.mem_append.1 hk with hk | hk
          · exact (hlk0 k hk y h).elim (fun e => .inl (.inl e)) .inr
          · exact .inl (.inr (hrkF k hk y h))
      have hkdis : ∀ k ∈ ksl ++ ksr, ∀ y, k.F y → ¬ (y = l'.b ∨ ivl'.ownBlock = some y ∨ cvl'.ownBlock = some y) := by
        intro k hk y hy h
        have h2 := hFF y h
        rcases List.mem_append.1 hk with hk | hk
        · rcases h2 with h2 | h2
          · exact hlkd k hk y hy h2
          · have := (q1.R k hk).lt d k y hy; omega
        · have hy' := hrkF k hk y hy
          rcases h2 with h2 | h2
          · rcases hlF' y h2 with h1 | h1
            · exact hlr y h1 hy'
            · have := hlt y (hrF y hy'); omega
          · have := hlt y (hrF y hy'); omega
      refine ⟨rfl, merge_parent (mg := ⟨l'.b, (Il ++ x :: Ir).length, l0.L ++ x :: r0.L, fun y => y = l'.b ∨ ivl'.ownBlock = some y ∨ cvl'.ownBlock = some y ∨ ∃ k ∈ ksl ++ ksr, k.F y, false⟩) H hB hol hs i2 i3 hA h23 x hx k02 hM rfl ?_ ?_ rfl hall hlF' i hi'⟩
      · refine ⟨o, ivl', cvl', Il ++ x :: Ir, ksl ++ ksr, ?_, hM.li, ?_, ?_, rfl, ?_, ?_, ?_, .inr ⟨rfl, rfl, fun y => Iff.rfl, fun y hy => ?_, fun e => (hM.lib _ e).2 rfl, fun e => (hM.lcb _ e).2 rfl, fun y hy hy' => hM.lic y hy' hy, fun k hk => ⟨fun h => hkdis k hk _ h (.inl rfl), fun y h h' => hkdis k hk y h' (.inr (.inl h)), fun y h h' => hkdis k hk y h' (.inr (.inr h))⟩, ?_⟩⟩
        · show NodeAt w' l'.b o ivl' cvl' (l0.L ++ x :: r0.L).length
          rw [hgL]; exact hM.ln
        · rw [List.map_append]; exact hM.lc
        · simp; omega
        · show l0.L ++ x :: r0.L = weave (Il ++ x :: Ir) ((ksl ++ ksr).map Ch.L)
          rw [List.map_append, weave_cut Il Ir x _ _ (by rw [List.length_map]; exact llen) (by rw [List.length_map]; exact rlen), ← lL, ← rL]
        · intro k hk
          rcases List.mem_append.1 hk with hk | hk
          · exact hR1 k hk
          · exact hR2 k hk
        · intro k hk
          rcases List.mem_append.1 hk with hk | hk
          · exact lz k hk
          · exact rz k hk
        · rcases hall y hy with (h | h) | h
          · exact H.FB y (hlF y h)
          · exact H.FB y (hrF y h)
          · omega
        · refine List.pairwise_append.2 ⟨q1.kk, ?_, fun a ha b hb y hy hy' => ?_⟩
          · rcases rf with ⟨_, _, _, _, _, _, _, f8, _⟩ | ⟨_, _, _, _, _, _, _, _, f9⟩
            · exact List.pairwise_of_forall_mem_list (fun a ha b hb y hy => absurd hy ((rR a ha).frozenF (f8 a ha) y))
            · exact f9
          · rcases hlk0 a ha y hy with h | h
            · exact hlr y h (hrkF b hb y hy')
            · have := hlt y (hrF y (hrkF b hb y hy')); omega
      · show (Il ++ x :: Ir).length = 63
        simp; omega
end Go.Proofs.Qxb6601392a.Bt
