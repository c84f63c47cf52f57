import Derived.Test.Qxb6601392aGrowE
import Derived.Test.Qxb6601392aRegB
import Derived.Test.Qxb6601392aRegC
namespace Go.Proofs.Qxb6601392a.Bt
open Go.RowKit

set_option maxRecDepth 100000 in
set_option maxHeartbeats 20000000 in
theorem grow3b_raw {w : World} {b o p g cap gc cc : Nat} {I : List It} {bs : List Nat} (W : Tri w b o p g cap gc cc I bs) (i2 i3 : Nat) (h23 : i3 = i2 + 1) (x : It) (hx : I[i2]? = some x) (hxv : x.v.size ≤ 1048576) (lb rb : Nat) (hlb : bs[i2]? = some lb) (hrb : bs[i3]? = some rb) (hn : I.length ≤ 10000) (hbn : bs.length = I.length + 1)
    (owr gr nr cr ncr ccr pr : Nat) (Acr : Option Addr) (Ir : List It) (bsr : List Nat) (hr : NodeAt w rb owr (.slice (some ⟨gr, 0, none⟩) nr cr) (.slice Acr ncr ccr) pr) (hrI : OwnI w (.slice (some ⟨gr, 0, none⟩) nr cr) Ir) (hrC : OwnC w (.slice Acr ncr ccr) bsr)
    (Az : Option Addr) (nz cz : Nat) (hlen : i3 = I.length) (hz : w.cell? ⟨lb, 1, none⟩ = some (.slice Az nz cz)) (hnz : nz ≤ 31)
    (Il : List It) (bsl : List Nat) (pl pl' : Nat) (hpl : pl' = pl + (1 + pr)) (hpl2 : pl' ≤ 4611686018427387904) (hsz : Il.length + Ir.length ≤ 5000) (hsz2 : bsl.length + bsr.length ≤ 5000)
    (M : World → Nat → Value → Value → Prop) (hmut : ∀ w1, Below w.heap.size w w1 → Calls Try.prog 37 #[.pointer (some ⟨lb, 0, none⟩), .pointer (some ⟨o, 0, none⟩)] w1 fun e w2 => ∃ lb' Al nl cl Acl ncl ccl, e = .returned (.pointer (some ⟨lb', 0, none⟩)) ∧ M w2 lb' (.slice Al nl cl) (.slice Acl ncl ccl) ∧ Keeps (fun _ => False) w1 w2 ∧
      Way w2 w2 lb' o (.slice Al nl cl) (.slice Acl ncl ccl) (.slice Al nl cl) (.slice Acl ncl ccl) pl Il bsl ∧ ∀ k, (k = b ∨ k = g ∨ k = gc ∨ k = rb ∨ k = gr ∨ (Value.slice Acr ncr ccr).ownBlock = some k) → k ≠ lb' ∧ (Value.slice Al nl cl).ownBlock ≠ some k ∧ (Value.slice Acl ncl ccl).ownBlock ≠ some k) :
    Calls Try.prog 44 #[.pointer (some ⟨b, 0, none⟩), .int .i64 (i3 : Int), .pointer (some ⟨o, 0, none⟩)] w fun e w' => e = .returned (.tuple #[]) ∧ ∃ w2 lb' ivl cvl ivl' cvl' iv' cv', M w2 lb' ivl cvl ∧ Keeps (fun _ => False) w w2 ∧ Merged w2 w' b o p g gc lb' pl' i2 i3 ivl cvl ivl' cvl' iv' cv' (Il ++ x :: Ir) I (bsl ++ bsr) bs := by
  have HW := hide' W
  have HX := hide' hx
  have HLB := hide' hlb
  have HRB := hide' hrb
  have HMUT := hide' hmut
  have HR := hide' hr
  have HRI := hide' hrI
  have HRC := hide' hrC
  have H23 := hide' h23
  have HPL := hide' hpl
  have HBN := hide' hbn
  have hii : i2 ≠ i3 := by omega
  have h2I : i2 < I.length := (List.getElem?_eq_some_iff.1 hx).1
  have h2I' : (i2 : Int) < (I.length : Int) := by omega
  have h3l : i3 < bs.length := (List.getElem?_eq_some_iff.1 hrb).1
  have h3l' : (i3 : Int) < (bs.length : Int) := by omega
  have h2l : i2 < bs.length := by omega
  have h2l' : (i2 : Int) < (bs.length : Int) := by omega
  have hn' : (I.length : Int) ≤ 10000 := by omega
  have hbn' : (bs.length : Int) ≤ 10001 := by omega
  have hw3 : IntKind.i64.wrap ((i2 : Int) + 1) = (i3 : Int) := by rw [IntKind.wrap_i64]; omega
  have x60i := fun W => idx60 gc bs.length cc i2 h2l W
  have x60j := fun W => idx60 gc bs.length cc i3 h3l W
  have x59j := fun W => idx59 g I.length cap i2 h2I W
  have n1 := W.n.c1
  have n2 := W.n.c2
  have kj := (W.c.cell hlb).1
  have ki := (W.c.cell hrb).1
  have h0' : (0 : Int) < (i3 : Int) := by omega
  have h0d : decide ((0 : Int) < (i3 : Int)) = true := decide_eq_true h0'
  have hwj : IntKind.i64.wrap ((i3 : Int) - 1) = (i2 : Int) := by rw [IntKind.wrap_i64]; omega
  have hnz' : (nz : Int) ≤ 31 := by omega
  have hnzd : decide ((31 : Int) < (nz : Int)) = false := decide_eq_false (by omega)
  have hid : decide ((i3 : Int) < (I.length : Int)) = false := decide_eq_false (by omega)
  have hidn : (I.length : Int) ≤ (i3 : Int) := by omega
  have he : ((i3 : Int) == (I.length : Int)) = true := by rw [hlen]; simp
  clear hlen
  clear W hx hlb hrb hmut h23 hr hrI hrC hpl hbn
  go_enter Try.func44, Try.ntmps44
  go_upto_region 2 with fail
  go_region_held3 (fun w' => w'.cell? ⟨b, 2, none⟩ = some (.slice (some ⟨gc, 0, none⟩) bs.length cc) ∧ w'.cell? ⟨gc, i2, none⟩ = some (.pointer (some ⟨lb, 0, none⟩)) ∧ w'.cell? ⟨gc, i3, none⟩ = some (.pointer (some ⟨rb, 0, none⟩))) (first | go_keep | exact ⟨q2.cell n2 (fun h => h), q2.cell kj (fun h => h), q2.cell ki (fun h => h)⟩)
    (first
      | (go_at_call_of 37 lb; refine (HMUT.out _ ?_).mono ?_; exact ⟨rfl, rfl, rfl, Nat.le_refl _, fun _ _ => rfl⟩; rintro e w2 ⟨lb', Al, nl, cl, Acl, ncl, ccl, rfl, m1, q2, wl, hD⟩))
  have k2 : Keeps (fun _ => False) w w2 := (Keeps.refl _ w).drew.trans q2
  have hW2 := HW.out.keeps k2
  have hrI2 : OwnI w2 (.slice (some ⟨gr, 0, none⟩) nr cr) Ir := HRI.out.of_block (fun k hk => k2.block k (HRI.out.blk k hk) (fun h => h))
  obtain ⟨A1, n1', c1', wA, A2, n2', c2', wB, hA1, hA2, kA, kB, hNB, hNA, hW4⟩ := merge_items wl x gr nr cr Ir hrI2 (fun e => (hD gr (by simp)).2.1 e) (by omega)
  have hlr := HR.out.lt
  have a1 := hW2.n.c1
  obtain ⟨a2, a3, a4, _⟩ := hW2.i.cell' HX.out
  have l1 := wl.n.c1
  have rr := (HR.out.of_block (k2.block rb hlr (fun h => h))).c1
  have l1f := wl.n.free 1
  have lA := hNA.c1
  have hRA : NodeAt wA rb owr (.slice (some ⟨gr, 0, none⟩) nr cr) (.slice Acr ncr ccr) pr := HR.out.of_block ((kA.block rb (by have := k2.size; omega) (fun e => (hD rb (by simp)).2.1 e)).trans (k2.block rb hlr (fun h => h)))
  have rA := hRA.c1
  have lBf := hNB.free 1
  have lB := hNB.c1
  have hrl2 : rb < w2.heap.size := by have := k2.size; omega
  have hbl2 := hW2.lt.1
  have hgl2 := hW2.lt.2.1
  have hll2 := wl.n.lt
  have HWL := hide' wl
  have HW2 := hide' hW2
  have HD := hide' hD
  have HM := hide' m1
  have HK2 := hide' k2
  have HKB := hide' kB
  have HW4 := hide' hW4
  clear wl hW2 hD m1 k2 kA kB hW4 q2 hrI2 hNB hNA hRA n1 n2 kj ki hlr
  go_upto_region 3 with fail
  refine grow_reg3 h2I' hn' x59j a1 a2 a3 a4 l1 rr rA lB lBf hbl2 hgl2 hll2 hrl2 hA1 hA2 _ _ _ _ _ _ _ _ _ _ _ _ _ _ _ _ _ _ _ _ _ _ _ _ _ _ _ _ _ _ _ _ _ _ _ _ _ _ _ _ _ _ _ _ _ _ _ _ _ _ _ _ _ _ _ _ _ _ _ _ ?_
  intro v42 v43 v44 v45 v46 v47 v48 v49 v50 v51 v52 v53 v54 v55 v56 v57 v58 v59 v60 v61 v62
  obtain ⟨w4, hcut⟩ : ∃ w4 : World, w4 = wB.setCell ⟨lb', 1, none⟩ (.slice A2 n2' c2') := ⟨_, rfl⟩
  rw [← hcut]
  have hW4 := HW4.out
  rw [← hcut] at hW4
  have hk4 : Keeps (fun k => (Value.slice Al nl cl).ownBlock = some k ∨ k = lb') w2 w4 := by
    rw [hcut]
    exact (HKB.out.mono (fun _ _ h => .inl h)).setCell (p := ⟨lb', 1, none⟩) (.inl (.inr rfl)) _
  have hs2 := HK2.out.size
  have hDk : ∀ k, (k = b ∨ k = g ∨ k = gc ∨ k = rb ∨ k = gr ∨ (Value.slice Acr ncr ccr).ownBlock = some k) → k < w.heap.size → w4.heap[k]? = w2.heap[k]? := fun k hk hkl => hk4.block k (by omega) (by
    rintro (e | e)
    · exact (HD.out k hk).2.1 e
    · exact (HD.out k hk).1 e)
  have hRN4 : NodeAt w4 rb owr (.slice (some ⟨gr, 0, none⟩) nr cr) (.slice Acr ncr ccr) pr := HR.out.of_block ((hDk rb (by simp) HR.out.lt).trans (HK2.out.block rb HR.out.lt (fun h => h)))
  have hRC4 : OwnC w4 (.slice Acr ncr ccr) bsr := HRC.out.of_block (fun k hk => (hDk k (by simp [hk]) (HRC.out.blk k hk)).trans (HK2.out.block k (HRC.out.blk k hk) (fun h => h)))
  have hT4 : Tri w4 b o p g cap gc cc I bs := HW2.out.of (fun k hk => hDk k (by rcases hk with e | e | e <;> simp [e]) (by have := HW.out.lt; rcases hk with e | e | e <;> omega))
  obtain ⟨A5, n5, c5, wD, hA5, kD, hND, hW6⟩ := merge_kids hW4 Acr ncr ccr bsr hRC4 (fun k hk => (HD.out k (by simp [hk])).2.2) (by omega)
  have r2 := hRN4.c2
  have l2 := hW4.n.c2
  have lDf := hND.free 2
  have lD := hND.c2
  have HW4' := hide' hW4
  have HK4 := hide' hk4
  have HT4 := hide' hT4
  have HR4 := hide' hRN4
  have HKD := hide' kD
  have HW6 := hide' hW6
  clear hW4 hk4 hT4 hRN4 hRC4 kD hW6 hND hDk hcut hs2 hA1 hA2 a1 a2 a3 a4 l1 rr l1f lA rA lBf lB hrl2 hbl2 hgl2 hll2
  go_upto_region 4 with fail
  refine grow_reg4 l2 r2 lD lDf hA5 _ _ _ _ _ _ _ _ _ _ _ _ _ _ _ _ _ _ _ _ _ _ _ _ _ _ _ _ _ _ _ _ _ _ _ _ _ _ _ _ _ _ _ _ _ _ _ _ _ _ _ _ _ _ _ _ _ _ _ _ _ _ _ _ _ _ _ _ _ _ _ _ ?_
  intro v63 v64 v65 v66 v67 v68 v69 v70 v71 v72 v73 v74
  obtain ⟨w6, hcut⟩ : ∃ w6 : World, w6 = wD.setCell ⟨lb', 2, none⟩ (.slice A5 n5 c5) := ⟨_, rfl⟩
  rw [← hcut]
  have hW6 := HW6.out
  rw [← hcut] at hW6
  have hs2 := HK2.out.size
  have hs4 := HK4.out.size
  have hk6 : ∀ k, (k = b ∨ k = g ∨ k = gc ∨ k = rb ∨ k = gr ∨ (Value.slice Acr ncr ccr).ownBlock = some k) → k < w.heap.size → w6.heap[k]? = w4.heap[k]? := fun k hk hkl => by
    rw [hcut]
    exact (Below.heap_setCell _ ⟨lb', 2, none⟩ _ _ (HD.out k hk).1).trans (HKD.out.block k (by omega) (HD.out k hk).2.2)
  have hT6 : Tri w6 b o p g cap gc cc I bs := HT4.out.of (fun k hk => hk6 k (by rcases hk with e | e | e <;> simp [e]) (by have := HW.out.lt; rcases hk with e | e | e <;> omega))
  have hR6 : NodeAt w6 rb owr (.slice (some ⟨gr, 0, none⟩) nr cr) (.slice Acr ncr ccr) pr := HR4.out.of_block (hk6 rb (by simp) HR.out.lt)
  have l63 := hW6.n.c3
  have l6f := hW6.n.free 3
  have r63 := hR6.c3
  have t61 := hT6.n.c1
  obtain ⟨_, v6, _, _⟩ := hT6.i.cell' HX.out
  have hp1 : (0 : Int) ≤ (pr : Int) := by omega
  have hp2 : (pr : Int) ≤ 4611686018427387904 := by have := HPL.out; omega
  have hwa : IntKind.i64.wrap (1 + (pr : Int)) = 1 + (pr : Int) := by rw [IntKind.wrap_i64]; omega
  have hwb : IntKind.i64.wrap ((pl : Int) + (1 + (pr : Int))) = (pl' : Int) := by have := HPL.out; rw [IntKind.wrap_i64]; omega
  have hlb6 : rb ≠ lb' := (HD.out rb (by simp)).1
  have HW6' := hide' hW6
  have HT6 := hide' hT6
  clear hW6 hT6 hR6 hk6 hs2 hs4 hcut hA5 r2 l2 lDf lD
  go_upto_region 5 with fail
  refine grow_reg5 hxv h2I' hn' x59j t61 v6 l63 l6f r63 hp1 hp2 hwa hwb _ _ _ _ _ _ _ _ _ _ _ _ _ _ _ _ _ _ _ _ _ _ _ _ _ _ _ _ _ _ _ _ _ _ _ _ _ _ _ _ _ _ _ _ _ _ _ _ _ _ _ _ _ _ _ _ _ _ _ _ _ _ _ _ _ _ _ _ _ _ _ _ _ _ _ _ _ _ _ _ _ _ _ _ _ _ _ _ _ _ _ _ _ _ ?_
  intro v75 v76 v77 v78 v79 v80 v81 v82 v83 v84 v85 v86 v87 v88 v89 v90 v91 v92 v93 v94 v95 v96
  obtain ⟨w7, hcut⟩ : ∃ w7 : World, w7 = (w6.setCell ⟨lb', 3, none⟩ (.int .i64 (pl' : Int))).drew := ⟨_, rfl⟩
  rw [← hcut]
  have hW7 : Way w2 w7 lb' o (.slice Al nl cl) (.slice Acl ncl ccl) (.slice A2 n2' c2') (.slice A5 n5 c5) pl' (Il ++ x :: Ir) (bsl ++ bsr) := by rw [hcut]; exact (HW6'.out.set3 pl').drew
  have hlt6 := HT6.out.lt
  have hDD : ∀ k, k = b ∨ k = g ∨ k = gc → k ≠ lb' := fun k hk => (HD.out k (by rcases hk with e | e | e <;> simp [e])).1
  have hT7 : Tri w7 b o p g cap gc cc I bs := HT6.out.of (fun k hk => by rw [hcut]; exact Below.heap_setCell _ ⟨lb', 3, none⟩ _ _ (hDD k hk))
  have hY7 := hT7.way
  have HDEL := hide' (delete59_node hT7.i hT7.n (fun e => hT7.gb (by simpa [Value.ownBlock] using e)) (by omega) i2 h2I)
  have t71 := hT7.n.c1
  have hwi : IntKind.i64.wrap ((i2 : Int) + 1) = (i3 : Int) := hw3
  have H3' : Hid ((i2 : Int) + 1 = (i3 : Int)) := by show _ = _; have := H23.out; omega
  have HDEL' := HDEL.out
  rw [H3'.out] at HDEL'
  have HDL := hide' HDEL'
  have HY7 := hide' hY7
  have HW7 := hide' hW7
  have HT7 := hide' hT7
  clear hcut hW7 hlt6 hDD hT7 hY7 HDEL HDEL' l63 l6f r63 t61 v6 hp1 hp2 hwa hwb hwi
  go_wp2_with fail
  refine HDL.out.mono ?_
  rintro e w8 ⟨A8, n8, c8, rfl, s1, s2, s3, s4⟩
  have f8 := s4.free 1
  have f8' := s4.c1
  have hY9 := HY7.out.items s2 s1 s4 (fun k hk => .inl (s3 ▸ hk))
  obtain ⟨w9, hw9⟩ : ∃ w9, w9 = w8.setCell ⟨b, 1, none⟩ (.slice A8 n8 c8) := ⟨_, rfl⟩
  rw [← hw9] at hY9
  have k79 : Keeps (fun k => k = b ∨ k = g) w7 w9 := by rw [hw9]; exact (s2.mono (fun k _ h => .inr (by simpa [Value.ownBlock] using h.symm))).setCell (p := ⟨b, 1, none⟩) (.inl (.inl rfl)) _
  have h91 : ∀ k, (Value.slice A8 n8 c8).ownBlock = some k → k = g := fun k hk => by rw [s3] at hk; simpa [Value.ownBlock] using hk.symm
  have HDEL2 := hide' (delete60_node hY9.c hY9.n (fun e => (hY9.cb b e).2 rfl) (by omega) i3 h3l)
  have y92 := hY9.n.c2
  have hw4 : IntKind.i64.wrap ((i2 : Int) + 2) = (i3 : Int) + 1 := by have := H23.out; rw [IntKind.wrap_i64]; omega
  have HY9 := hide' hY9
  have HW9 := hide' hw9
  have HK79 := hide' k79
  have H91 := hide' h91
  clear hY9 hw9 k79 s1 s2 s3 s4 h91 t71
  go_upto_region 7 with fail
  rw [← HW9.out]
  go_wp2_with fail
  refine HDEL2.out.mono ?_
  rintro e w10 ⟨A10, n10, c10, rfl, s1, s2, s3, s4⟩
  have f10 := s4.free 2
  have f10' := s4.c2
  have hY11 := HY9.out.kids s2 s1 s4 (fun k hk => .inl (s3 ▸ hk))
  obtain ⟨w11, hw11⟩ : ∃ w11, w11 = w10.setCell ⟨b, 2, none⟩ (.slice A10 n10 c10) := ⟨_, rfl⟩
  rw [← hw11] at hY11
  have k911 : Keeps (fun k => k = b ∨ k = gc) w9 w11 := by rw [hw11]; exact (s2.mono (fun k _ h => .inr (by simpa [Value.ownBlock] using h.symm))).setCell (p := ⟨b, 2, none⟩) (.inl (.inl rfl)) _
  have hb2 : (bs.take i3 ++ bs.drop (i3 + 1))[i2]? = some lb := by
    rw [List.getElem?_append_left (by rw [List.length_take]; have := H23.out; omega), List.getElem?_take_of_lt (by have := H23.out; omega)]; exact HLB.out
  obtain ⟨g10, cg10, hv10, m10, m10f, _, _⟩ := hY11.c.at hb2
  injection hv10 with hv1 hv2 hv3
  subst hv1
  have hg10 : g10 = gc := by have := s3; simp [Value.ownBlock] at this; exact this
  subst hg10
  have hn10 : i2 < n10 := by have h1 := (List.getElem?_eq_some_iff.1 hb2).1; omega
  have hn10' : (i2 : Int) < (n10 : Int) := by omega
  have x60n := fun W => idx60 g10 n10 c10 i2 hn10 W
  have y112 := hY11.n.c2
  have HY11 := hide' hY11
  have HW11 := hide' hw11
  have HK911 := hide' k911
  clear hY11 hw11 k911 s1 s2 s3 s4 hv2 hv3 hb2 y92 f8 f8'
  go_upto_region 8 with fail
  rw [← HW11.out]
  go_wp2_with fail
  have hk711 : Keeps (fun k => k = b ∨ k = g ∨ k = g10) w7 w11 := (HK79.out.mono (fun k _ h => h.elim .inl (fun e => .inr (.inl e)))).andThen HK911.out (fun k _ h => h.elim .inl (fun e => .inr (.inr e)))
  have hk7 : Keeps (fun k => k = b ∨ k = g ∨ k = g10) w7 (w11.setCell ⟨g10, i2, none⟩ (.pointer (some ⟨lb', 0, none⟩))) := hk711.setCell (p := ⟨g10, i2, none⟩) (.inl (.inr (.inr rfl))) _
  have hw27 : w2.heap.size ≤ w7.heap.size := HW7.out.k.size
  have hwD : ∀ k, k = b ∨ k = g ∨ k = g10 → k < w2.heap.size := fun k hk => by have := HW2.out.lt; rcases hk with e | e | e <;> omega
  have hnD : ∀ k, (k = lb' ∨ (Value.slice A2 n2' c2').ownBlock = some k ∨ (Value.slice A5 n5 c5).ownBlock = some k) → ¬ (k = b ∨ k = g ∨ k = g10) := by
    intro k hk hk'
    have hd := HD.out k (by rcases hk' with e | e | e <;> simp [e])
    have hl := hwD k hk'
    rcases hk with e | e | e
    · exact hd.1 e
    · rcases (HW7.out.ib k e).1 with h1 | h1
      · exact hd.2.1 h1
      · omega
    · rcases (HW7.out.cb k e).1 with h1 | h1
      · exact hd.2.2 h1
      · omega
  have hY := HY11.out
  refine bodyPost_end (v := .tuple #[]) (by simp [results, Try.results44, go_sem]) rfl ⟨rfl, w2, lb', _, _, .slice A2 n2' c2', .slice A5 n5 c5, .slice A8 n8 c8, .slice (some ⟨g10, 0, none⟩) n10 c10, HM.out, HK2.out, ⟨?_, ?_, ?_, HW7.out.ib, HW7.out.cb, HW7.out.ic, ?_, ?_, ?_, H91.out, fun k hk => ?_, ?_⟩⟩
  · exact HW7.out.n.of_block (hk7.block lb' HW7.out.n.lt (hnD lb' (.inl rfl)))
  · exact HW7.out.i.of_block (fun k hk => hk7.block k (HW7.out.i.blk k hk) (hnD k (.inr (.inl hk))))
  · exact HW7.out.c.of_block (fun k hk => hk7.block k (HW7.out.c.blk k hk) (hnD k (.inr (.inr hk))))
  · exact hY.n.of_block (Below.heap_setCell _ ⟨g10, i2, none⟩ _ _ (fun e => HT7.out.gcb e.symm))
  · exact hY.i.of_block (fun k hk => Below.heap_setCell _ ⟨g10, i2, none⟩ _ _ (fun e => HT7.out.gg ((H91.out k hk).symm.trans e)))
  · exact OwnC.put' hY.c i2 lb'
  · simpa [Value.ownBlock] using hk.symm
  · refine (HW7.out.k.mono (fun k _ h => ?_)).andThen hk7 (fun k _ h => ?_)
    · rcases h with h | h | h
      · exact .inr (.inr (.inr (.inr (.inl h))))
      · exact .inr (.inr (.inr (.inr (.inr h))))
      · exact .inr (.inr (.inr (.inl h)))
    · rcases h with h | h | h
      · exact .inl h
      · exact .inr (.inl h)
      · exact .inr (.inr (.inl h))
end Go.Proofs.Qxb6601392a.Bt
