import Derived.Test.Qxb6601392aPutG
namespace Go.Proofs.Qxb6601392a.Bt
open Go.RowKit

theorem weave_two (I : List It) (A C : List (List It)) (L1 L2 : List It) (mid : It) (i : Nat) (hA : A.length = i) (hC : C.length + i = I.length) :
    weave I (A ++ (L1 ++ mid :: L2) :: C) = weave (I.take i ++ mid :: I.drop i) (A ++ L1 :: L2 :: C) := by
  have e1 := weave_split A (I.take i) (I.drop i) (L1 ++ mid :: L2) C (by rw [List.length_take]; omega)
  rw [List.take_append_drop] at e1
  have e2 := weave_split A (I.take i) (mid :: I.drop i) L1 (L2 :: C) (by rw [List.length_take]; omega)
  rw [e1, e2, wpost_cons]
  simp

theorem Pos.near {I : List It} {k : Key} {i j : Nat} {mid : It} (hp : Pos I k i false) (hq : Pos (I.take i ++ mid :: I.drop i) k j false) : j = i ∨ j = i + 1 := by
  have hil := hp.le
  have hl : (I.take i).length = i := by rw [List.length_take]; omega
  have hjl := hq.le
  simp only [List.length_append, List.length_cons, List.length_drop, hl] at hjl
  rcases Nat.lt_or_ge j i with h | h
  · exfalso
    obtain ⟨y, hy⟩ : ∃ y, I[j]? = some y := ⟨_, List.getElem?_eq_getElem (by omega)⟩
    have h1 := hp.lt j y hy h
    have h2 := hq.ge j y (by rw [List.getElem?_append_left (by omega), List.getElem?_take_of_lt h]; exact hy) (Nat.le_refl _)
    rw [h1] at h2; cases h2
  · rcases Nat.lt_or_ge (i + 1) j with h' | h'
    · exfalso
      obtain ⟨y, hy⟩ : ∃ y, I[i]? = some y := ⟨_, List.getElem?_eq_getElem (by omega)⟩
      have h1 := hp.ge i y hy (Nat.le_refl _)
      have h2 := hq.lt (i + 1) y (by rw [List.getElem?_append_right (by omega), hl, show i + 1 - i = 1 by omega, List.getElem?_cons_succ, List.getElem?_drop]; exact hy) h'
      rw [h1] at h2; cases h2
    · omega

theorem putOk_succ {d : Nat} (ih : PutOk d) : PutOk (d + 1) := by
  intro w o B c x pre hm
  obtain ⟨iv, cv, I, ks, H⟩ := pre.rep.nodeO pre.fz
  have hB := pre.hB
  have hol : o < w.heap.size := (Array.getElem?_eq_some_iff.1 pre.ho).1
  have hcm := H.m
  by_cases hfull : ∃ i k, Pos I x.key i false ∧ ks[i]? = some k ∧ k.m = 63
  · obtain ⟨i, k, hp, hk, hk63⟩ := hfull
    obtain ⟨A, C, rfl, hAi⟩ := split_at hk
    have hkm : k ∈ A ++ [k] ++ C := by simp
    have hkR := H.R k hkm
    have hkd := H.kd k hkm
    have hlk : ((A ++ [k] ++ C).map Ch.L).length = I.length + 1 := by rw [List.length_map]; exact H.len
    have hL := H.L
    have hsI : Sorted I := by
      have := weave_sub I _ hlk
      rw [← hL] at this
      exact pre.sorted.sublist this
    have hsubk : k.L.Sublist c.L := by
      rw [hL]; exact weave_kid_sub I _ hlk k.L (List.mem_map.2 ⟨k, hkm, rfl⟩)
    have hll : k.L.length ≤ c.L.length := hsubk.length_le
    have hplen := pre.len
    obtain ⟨gc, cc, rfl, _, _, hccl, hccm⟩ := OwnC.at H.cs (k := i) (b := k.b) (by rw [List.getElem?_map, hk]; rfl)
    have hlen' : C.length + i = I.length := by have := H.len; simp at this; omega
    have hgcl : gc < w.heap.size := H.cs.blk gc rfl
    have hgb : gc ≠ c.b := fun e => H.cb (by rw [← e]; rfl)
    have gcF : c.F gc := (H.F gc).2 (.inr (.inr (.inl rfl)))
    have hbl := H.n.lt
    refine put_split_raw (b := c.b) (o := o) (p := c.L.length) (gc := gc) (cc := cc) (iv := iv) (I := I) (bs := (A ++ [k] ++ C).map Ch.b) H.n H.is hsI (by omega) H.cs x i hp k.b (by rw [List.getElem?_map, hk]; rfl) (by rw [List.length_map, H.len]; omega) hgb H.ib (fun e => H.ic gc e rfl)
      (fun w1 w2 kb' => ∃ k' : Ch, kb' = k'.b ∧ Rep w2 o B d k' ∧ k'.L = k.L ∧ k'.m = k.m ∧ k'.fz = false ∧ (∀ y, k'.F y → k.F y ∨ w1.heap.size ≤ y) ∧ Keeps (fun _ => False) w1 w2) ?_ ?_
      (fun w1 w2 kb' mid r w4 => ∃ k1 k2 : Ch, r = k2.b ∧ k1.b = kb' ∧ Rep w4 o B d k1 ∧ Rep w4 o B d k2 ∧ k.L = k1.L ++ mid :: k2.L ∧ k1.m = 31 ∧ k2.m = 31 ∧ (∀ y, k1.F y → k.F y ∨ w1.heap.size ≤ y) ∧ (∀ y, k2.F y → k.F y ∨ w1.heap.size ≤ y) ∧ (∀ y, k1.F y → ¬ k2.F y) ∧
        Keeps (fun y => k.F y ∨ w1.heap.size ≤ y) (w2.setCell ⟨gc, i, none⟩ (.pointer (some ⟨kb', 0, none⟩))) w4) ?_ ?_ (PutPost w o B (d + 1) c x) ?_
    · intro w1 hb1
      have hs1 := hb1.size
      have hk1 : Rep w1 o B d k := Rep.keep (fun y hy => hb1.block y (by omega)) d k hkR (fun y hy => hb1.block y (hkR.lt d k y hy))
      refine (mutable_any hk1 (by omega) ((hb1.block o hol).trans pre.ho) (by omega)).mono ?_
      rintro e w2 ⟨k', rfl, r1, r2, r3, r4, r5, r6⟩
      exact ⟨k'.b, rfl, k', rfl, r1, r2, r3, r4, r5, r6⟩
    · rintro w1 w2 kb' hb1 ⟨k', rfl, r1, r2, r3, r4, r5, r6⟩
      have hs1 := hb1.size
      refine ⟨r6, fun e => ?_, ?_⟩
      · rcases r5 _ (r1.bF r4) with h1 | h1
        · exact hkd.2.2 k'.b (by rw [e]; rfl) h1
        · omega
      · obtain ⟨ow, ivk, cvk, Ik, n1, n2, n3⟩ := r1.node
        obtain ⟨Ak, q, rfl, _, _⟩ := n2.form
        have : Ik.length = 63 := by omega
        rw [this] at n1
        exact ⟨ow, Ak, q, cvk, _, n1⟩
    · rintro w1 w2 kb' hb1 ⟨k', rfl, r1, r2, r3, r4, r5, r6⟩
      have hs1 := hb1.size
      have hs2 := r6.size
      have hgk : ¬ k'.F gc := fun e => by
        rcases r5 _ e with h1 | h1
        · exact hkd.2.2 gc rfl h1
        · omega
      have hR3 : Rep (w2.setCell ⟨gc, i, none⟩ (.pointer (some ⟨k'.b, 0, none⟩))) o B d k' := by
        refine Rep.keep (fun y hy => Below.heap_setCell _ ⟨gc, i, none⟩ _ _ ?_) d k' r1 (fun y hy => Below.heap_setCell _ ⟨gc, i, none⟩ _ _ ?_)
        · intro e
          have e : y = gc := e
          have := (H.FB gc gcF).1
          omega
        · intro e
          have e : y = gc := e
          exact hgk (e ▸ hy)
      refine (split_any hR3 (by simp; omega) (by simp; omega) r4 (by omega) (by rw [r2]; exact fun y hy => pre.ok y (hsubk.subset hy)) (by rw [r2]; omega)).mono ?_
      rintro e w4 ⟨mid, k1, k2, rfl, s1, s2, s3, s4, s5, s6, s7, s8, s9, s10, s11, s12⟩
      refine ⟨mid, k2.b, rfl, k1, k2, rfl, s3, s1, s2, by rw [← s4, r2], s5, s6, fun y hy => r5 y (s9 y hy), fun y hy => ?_, s11, s12.mono (fun y _ hy => r5 y hy)⟩
      rcases s10 y hy with h1 | h1
      · exact r5 y h1
      · exact .inr (by simp at h1; omega)
    · rintro w1 w2 kb' mid r w4 hb1 hlt1 ⟨k', rfl, r1, r2, r3, r4, r5, r6⟩ ⟨k1, k2, rfl, s1, s2, s3, s4, s5, s6, s7, s8, s9, s10⟩
      have hs1 := hb1.size
      have hs2 := r6.size
      have hs4 := s10.size
      simp only [World.size_setCell] at hs4
      refine ⟨hs4, fun y hy => s10.block y ?_ ?_⟩
      · simp only [World.size_setCell]
        rcases hy with rfl | hy | rfl | rfl
        · omega
        · have := H.is.blk y hy; omega
        · omega
        · omega
      · rintro (e | e)
        · rcases hy with rfl | hy | rfl | rfl
          · exact hkd.1 e
          · exact hkd.2.1 y hy e
          · exact hkd.2.2 _ rfl e
          · have := hkR.lt d k _ e; omega
        · rcases hy with rfl | hy | rfl | rfl
          · omega
          · have := H.is.blk y hy; omega
          · omega
          · omega
    · rintro w1 w2 kb' mid r w4 w8 iv' cv' hb1 ⟨k', rfl, r1, r2, r3, r4, r5, r6⟩ ⟨k1, k2, rfl, s1, s2, s3, s4, s5, s6, s7, s8, s9, s10⟩ hup
      have hs1 := hb1.size
      have hs2 := r6.size
      have hs4 := s10.size
      simp only [World.size_setCell] at hs4
      have hs8 := hup.keep.size
      have hself : ∀ y, (k1.F y ∨ k2.F y) → k.F y ∨ (w.heap.size ≤ y ∧ y < w4.heap.size) := by
        rintro y (h1 | h1)
        · rcases s7 y h1 with h2 | h2
          · exact .inl h2
          · exact .inr ⟨by omega, s2.lt d k1 y h1⟩
        · rcases s8 y h1 with h2 | h2
          · exact .inl h2
          · exact .inr ⟨by omega, s3.lt d k2 y h1⟩
      have hSF : ∀ y, (iv.ownBlock = some y ∨ (Value.slice (some ⟨gc, 0, none⟩) ((A ++ [k] ++ C).map Ch.b).length cc).ownBlock = some y ∨ y = c.b) → c.F y ∧ ¬ k.F y ∧ y < w.heap.size := by
        rintro y (hy | hy | rfl)
        · exact ⟨(H.F y).2 (.inr (.inl hy)), hkd.2.1 y hy, H.is.blk y hy⟩
        · exact ⟨(H.F y).2 (.inr (.inr (.inl hy))), hkd.2.2 y hy, H.cs.blk y hy⟩
        · exact ⟨(H.F _).2 (.inl rfl), hkd.1, hbl⟩
      have hR8 : ∀ kk : Ch, Rep w4 o B d kk → (∀ y, kk.F y → k1.F y ∨ k2.F y) → Rep w8 o B d kk := fun kk hkk hF => hkk.keeps hup.keep (by omega) (fun y hy => (H.FB y (hSF y hy).1).1) (fun y hy hy' => by
        rcases hself y (hF y hy) with h1 | h1
        · exact (hSF y hy').2.1 h1
        · have := (hSF y hy').2.2; omega)
      have K1 : Keeps (fun y => y = c.b ∨ iv.ownBlock = some y ∨ (Value.slice (some ⟨gc, 0, none⟩) ((A ++ [k] ++ C).map Ch.b).length cc).ownBlock = some y ∨ ∃ k0 ∈ [k], k0.F y) w (w2.setCell ⟨gc, i, none⟩ (.pointer (some ⟨k'.b, 0, none⟩))) :=
        (((keeps_of_below hb1).andThen r6 (fun _ _ e => e.elim)).setCell (p := ⟨gc, i, none⟩) (.inl (.inr (.inr (.inl rfl)))) _)
      have K2 := K1.andThen s10 (fun y hy e => by
        rcases e with e | e
        · exact .inr (.inr (.inr ⟨k, by simp, e⟩))
        · omega)
      have K3 := K2.andThen hup.keep (fun y hy e => by
        rcases e with e | e | e
        · exact .inr (.inl e)
        · exact .inr (.inr (.inl e))
        · exact .inl e)
      have hbs : (((A ++ [k] ++ C).map Ch.b).set i k'.b).take (i + 1) ++ k2.b :: (((A ++ [k] ++ C).map Ch.b).set i k'.b).drop (i + 1) = (A ++ [k1, k2] ++ C).map Ch.b := by
        have e1 : ((A ++ [k] ++ C).map Ch.b).set i k'.b = (A.map Ch.b ++ [k'.b]) ++ C.map Ch.b := by rw [← hAi]; simp
        have e2 : (A.map Ch.b ++ [k'.b]).length = i + 1 := by simp [hAi]
        rw [e1, ← e2, List.take_left, List.drop_left]
        simp [s1]
      have hcs := hup.c
      rw [hbs] at hcs
      have hI' : (I.take i ++ mid :: I.drop i).length = I.length + 1 := by have := hp.le; simp; omega
      obtain ⟨c8, q1, q2, q3, q4, q5, q6, q7⟩ := node_build H hB hol w4.heap.size (by omega) [k1, k2] iv' cv' (I.take i ++ mid :: I.drop i) c.L K3 hup.n hup.i hcs (by rw [hI']; simp; omega) (by
          have := weave_two I (A.map Ch.L) (C.map Ch.L) k1.L k2.L mid i (by simpa using hAi) (by simpa using hlen')
          rw [hL]
          simp only [List.map_append, List.map_cons, List.append_assoc, List.cons_append, List.nil_append]
          rw [s4]
          exact this)
        (fun k0 hk0 => by
          simp at hk0
          rcases hk0 with rfl | rfl
          · exact hR8 _ s2 (fun y hy => .inl hy)
          · exact hR8 _ s3 (fun y hy => .inr hy)) (fun k0 hk0 => by
          simp at hk0
          rcases hk0 with rfl | rfl <;> omega) (fun k0 hk0 y hy => by
          have : k.F y ∨ (w.heap.size ≤ y ∧ y < w4.heap.size) := by
            simp at hk0
            rcases hk0 with rfl | rfl
            · exact hself y (.inl hy)
            · exact hself y (.inr hy)
          rcases this with h1 | h1
          · exact .inl ⟨k, by simp, h1⟩
          · exact .inr h1) (by simp; exact s9) (fun y hy => (hup.ib y hy).1) (fun y hy => (hup.cb y hy).1) (fun y hy => (hup.cb y hy).2.2)
      have ho8 : OwnerAt w8 o := (q7.block o hol (fun e => (H.FB o e).2 rfl)).trans pre.ho
      have hput := put_nf (x := x) ih q1 (by omega) ho8 (by rw [q3]; exact pre.sorted) (by rw [q3]; exact pre.ok) pre.xok (by rw [q3]; exact pre.len) (fun j kk hq hkk => by
        have hnear := hp.near hq
        rcases hnear with rfl | rfl
        · rw [List.append_assoc, List.getElem?_append_right (by omega), hAi, Nat.sub_self] at hkk
          simp at hkk; subst hkk; omega
        · rw [List.append_assoc, List.getElem?_append_right (by omega), hAi, show i + 1 - i = 1 by omega] at hkk
          simp at hkk; subst hkk; omega) (by rw [hI']; omega)
      unfold putArgs at hput
      rw [q2] at hput
      refine hput.mono ?_
      rintro e w' ⟨c', rfl, t1, t2, t3, t4, t5, t6, t7⟩
      rw [q3]
      rw [q3] at t3
      refine ⟨⟨_, _, rfl⟩, c', rfl, t1, t2.trans q2, t3, by omega, by omega, t5, fun y hy => ?_, q7.andThen t7 (fun y hy h => ?_)⟩
      · rcases t6 y hy with h1 | h1
        · exact q6 y h1
        · exact .inr (by omega)
      · rcases q6 y h with h1 | h1
        · exact h1
        · omega
  · refine (put_nf ih H hB pre.ho pre.sorted pre.ok pre.xok pre.len (fun i k hp hk => ?_) (by omega)).mono ?_
    · have := (H.z k (List.mem_of_getElem? hk)).2
      rcases Nat.lt_or_ge 62 k.m with h | h
      · exact absurd ⟨i, k, hp, hk, by omega⟩ hfull
      · exact h
    · rintro e w' ⟨c', rfl, t1, t2, t3, t4, t5, t6, t7⟩
      exact ⟨c', rfl, t1, t2, t3, by omega, by omega, t5, t6, t7⟩

theorem putOk (d : Nat) : PutOk d := by
  induction d with
  | zero => exact putOk_zero
  | succ d ih => exact putOk_succ ih
end Go.Proofs.Qxb6601392a.Bt
