import Derived.Test.Qxb6601392aRemE
import Derived.Test.Qxb6601392aRemG
namespace Go.Proofs.Qxb6601392a.Bt
open Go.RowKit

/-- the node built anew behind its child's remove -/
theorem rem_back {w w2 w5 w' : World} {o B d : Nat} {c : Ch} {iv : Value} {gc cc : Nat} {I I' : List It} {A C : List Ch} {k k2 : Ch} (H : NodeO w o B d c iv (.slice (some ⟨gc, 0, none⟩) ((A ++ [k] ++ C).map Ch.b).length cc) I (A ++ [k] ++ C)) (hB : B ≤ w.heap.size) (hol : o < w.heap.size) (i : Nat) (hA : A.length = i)
    (r1 : Rep w5 o B d k2) (hfz : k2.fz = false) (hz : 31 ≤ k2.m ∧ k2.m ≤ 63) (r3 : ∀ x, k2.F x → k.F x ∨ (w.heap.size < x ∧ x ≠ w2.heap.size)) (r4 : Keeps (fun x => k.F x ∨ x = gc ∨ w.heap.size ≤ x) w w5) (r5 : w5.cell? ⟨gc, i, none⟩ = some (.pointer (some ⟨k2.b, 0, none⟩)))
    {n kb' : Nat} (L' : List It) (hI' : I'.length = I.length) (hL' : L' = weave I' ((A ++ [k2] ++ C).map Ch.L)) {iv' : Value} (hiv : iv' = iv)
    (hc5 : OwnC w5 (.slice (some ⟨gc, 0, none⟩) n cc) (((A ++ [k] ++ C).map Ch.b).set i kb')) (hn : NodeAt w' c.b o iv' (.slice (some ⟨gc, 0, none⟩) n cc) L'.length) (hi : OwnI w' iv' I') (hc : OwnC w' (.slice (some ⟨gc, 0, none⟩) n cc) (((A ++ [k] ++ C).map Ch.b).set i kb')) (k5 : Keeps (fun x => x = c.b ∨ iv.ownBlock = some x ∨ w.heap.size ≤ x) w5 w')
    (hbox : ∀ x, w.heap.size ≤ x → x ≠ w.heap.size → x ≠ w2.heap.size → x < w5.heap.size → w'.heap[x]? = w5.heap[x]?) :
    ∃ c' : Ch, Rep w' o B (d + 1) c' ∧ c'.b = c.b ∧ c'.L = L' ∧ c'.m = I.length ∧ c'.fz = false ∧ (∀ x, c'.F x → c.F x ∨ w.heap.size ≤ x) ∧ Keeps c.F w w' ∧ (c'.m = 0 → Lone w' o B (d + 1) c') := by
  subst hiv
  have hkm : k ∈ A ++ [k] ++ C := by simp
  have hkd := H.kd k hkm
  have hs5 := r4.size
  have hlt : ∀ y, c.F y → y < w.heap.size := H.rep.lt
  have gF : ∀ x, iv'.ownBlock = some x → c.F x := fun x h => (H.F x).2 (.inr (.inl h))
  have bF : c.F c.b := (H.F c.b).2 (.inl rfl)
  have hkF : ∀ y, k.F y → c.F y := fun y hy => (H.F y).2 (.inr (.inr (.inr ⟨k, hkm, hy⟩)))
  have hbl : i < ((A ++ [k] ++ C).map Ch.b).length := by rw [List.length_map, ← hA]; simp
  have e1 : kb' = k2.b := by
    have h1 := (OwnC.at hc5 (k := i) (b := kb') (by rw [List.getElem?_set_self hbl]))
    obtain ⟨g', c', hv, h1, _⟩ := h1
    cases hv
    have := h1.symm.trans r5
    simpa using this
  subst e1
  have hbs : ((A ++ [k] ++ C).map Ch.b).set i k2.b = (A ++ [k2] ++ C).map Ch.b := by
    rw [← hA]; simp
  have hR' : Rep w' o B d k2 := by
    refine Rep.keep (fun x hx => k5.block x (by omega) (fun e => ?_)) d k2 r1 (fun x hx => ?_)
    · rcases e with e | e | e
      · have := (H.FB _ bF).1; omega
      · have := (H.FB _ (gF x e)).1; omega
      · omega
    · have hx5 := r1.lt d k2 x hx
      rcases r3 x hx with h | h
      · refine k5.block x hx5 (fun e => ?_)
        rcases e with e | e | e
        · exact hkd.1 (e ▸ h)
        · exact hkd.2.1 x e h
        · have := hlt x (hkF x h); omega
      · exact hbox x (by omega) (by omega) h.2 hx5
  obtain ⟨c', q1, q2, q3, q4, q5, q6, q7⟩ := node_build H hB hol w5.heap.size hs5 [k2] _ _ I' L' ((r4.mono (fun y hy h => by
      rcases h with h | h | h
      · exact .inr (.inr (.inr ⟨k, by simp, h⟩))
      · exact .inr (.inr (.inl (by rw [h]; rfl)))
      · omega)).andThen k5 (fun y hy h => by
      rcases h with h | h | h
      · exact .inl h
      · exact .inr (.inl h)
      · omega)) hn hi (by rw [← hbs]; exact hc) (by rw [hI', ← H.len]; simp) hL' (fun k' hk' => by simp at hk'; subst hk'; exact hR') (fun k' hk' => by simp at hk'; subst hk'; exact hz) (fun k' hk' y hy => by
      simp at hk'; subst hk'
      rcases r3 y hy with h | h
      · exact .inl ⟨k, by simp, h⟩
      · exact .inr ⟨by omega, r1.lt d _ y hy⟩) (List.pairwise_singleton _ _) (fun y hy => .inl hy) (fun y hy => .inl hy) (fun y hy hy' => H.ic y hy' hy)
  refine ⟨c', q1.rep, q2, q3, by rw [q4, hI'], q5, q6, q7, fun hm0 => ?_⟩
  have hI0 : I' = [] := List.length_eq_zero_iff.1 (by omega)
  have hlen := q1.len
  rw [hI0] at q1 hlen
  have hA0 : A = [] := List.length_eq_zero_iff.1 (by simp at hlen; omega)
  have hC0 : C = [] := List.length_eq_zero_iff.1 (by simp at hlen; omega)
  rw [hA0, hC0] at q1
  exact ⟨_, _, k2, q1, hfz⟩

theorem Rep.ne {w : World} {o B d : Nat} {c : Ch} (h : Rep w o B d c) (hm : 1 ≤ c.m) : c.L ≠ [] := by
  cases d with
  | zero => obtain ⟨_, _, _, _, _, _, e, _⟩ := h; intro e'; rw [e'] at e; simp at e; omega
  | succ d =>
    obtain ⟨_, _, _, I, ks, _, _, _, hl, hmm, hL, _⟩ := h
    intro e
    have h1 := weave_sub I (ks.map Ch.L) (by rw [List.length_map]; exact hl)
    rw [← hL, e] at h1
    have := h1.length_le
    simp at this
    rw [this] at hmm
    simp at hmm
    omega

/-- remove where the child to go down to has items to spare -/
theorem rem_ng {d : Nat} (IH : RemOk d) {w : World} {o B : Nat} {c : Ch} {iv cv : Value} {I : List It} {A C : List Ch} {k : Ch} (H : NodeO w o B d c iv cv I (A ++ [k] ++ C)) (hB : B ≤ w.heap.size) (ho : OwnerAt w o) (hs : Sorted c.L) (hok : ∀ y ∈ c.L, y.ok) (hlen : c.L.length ≤ 1000000000) (hI : I.length ≤ 63) (hk : 32 ≤ k.m)
    (key : ByteArray) (last : Bool) (i : Nat) (f : Bool) (hA : A.length = i) (hE : if last then i = I.length ∧ f = false else Pos I key.data.toList i f) (hh : if last then True else hasKey c.L key.data.toList = true) :
    Calls Try.prog 51 #[.pointer (some ⟨c.b, 0, none⟩), .string key, .bool last, .pointer (some ⟨o, 0, none⟩)] w (RemPost 0 w o B (d + 1) c key last) := by
  have hol : o < w.heap.size := (Array.getElem?_eq_some_iff.1 ho).1
  have hkm : k ∈ A ++ [k] ++ C := by simp
  have hkR := H.R k hkm
  have hkd := H.kd k hkm
  have hkz := H.z k hkm
  have hlen2 := H.len
  have hkl : (A ++ [k] ++ C).length = i + 1 + C.length := by simp; omega
  have hlk : ((A ++ [k] ++ C).map Ch.L).length = I.length + 1 := by rw [List.length_map]; exact H.len
  have hkb : ((A ++ [k] ++ C).map Ch.b)[i]? = some k.b := by rw [← hA]; simp
  obtain ⟨Ai, cap, rfl, _⟩ := H.is.form
  obtain ⟨gc, cc, rfl, _⟩ := OwnC.at H.cs hkb
  have gcF : c.F gc := (H.F gc).2 (.inr (.inr (.inl rfl)))
  have bF : c.F c.b := (H.F c.b).2 (.inl rfl)
  have hnk : ∀ x, x = c.b ∨ (Value.slice Ai I.length cap).ownBlock = some x ∨ x = gc → ¬ k.F x := by
    rintro x (rfl | h | rfl)
    · exact hkd.1
    · exact hkd.2.1 _ h
    · exact hkd.2.2 _ rfl
  have W : TriB w c.b o c.L.length Ai cap gc cc I ((A ++ [k] ++ C).map Ch.b) := ⟨H.n, H.is, H.cs, H.ib, fun e => H.cb (by rw [← e]; rfl), fun e => H.ic gc e rfl⟩
  obtain ⟨_, ivk, _, Ik, kn, ki, kil⟩ := hkR.node
  obtain ⟨Ak, ck, rfl, _, _⟩ := ki.form
  have hsub : k.L.Sublist c.L := by rw [H.L]; exact weave_kid_sub I _ hlk k.L (List.mem_map.2 ⟨k, hkm, rfl⟩)
  have hkll := hsub.length_le
  have hks : Sorted k.L := hs.sublist hsub
  have hkok : ∀ y ∈ k.L, y.ok := fun y hy => hok y (hsub.subset hy)
  have hAl : (A.map Ch.L).length = i := by rw [List.length_map]; exact hA
  have hCl : (C.map Ch.L).length + i = I.length := by rw [List.length_map]; omega
  have hsI : Sorted I := by
    have := weave_sub I _ hlk
    rw [← H.L] at this
    exact hs.sublist this
  have hsplit : ∀ (J : List It) (M : Ch), J.length = I.length → weave J ((A ++ [M] ++ C).map Ch.L) = wpre (A.map Ch.L) (J.take i) ++ (M.L ++ wpost (J.drop i) (C.map Ch.L)) := fun J M hJ => by
    have := weave_split (A.map Ch.L) (J.take i) (J.drop i) M.L (C.map Ch.L) (by rw [List.length_take]; omega)
    rw [List.take_append_drop] at this
    rw [← this]; simp
  have hcL := H.L
  rw [hsplit I k rfl] at hcL
  have hkne : k.L ≠ [] := hkR.ne (by omega)
  have hbl1 : ((A ++ [k] ++ C).map Ch.b).length ≤ 10000 := by rw [List.length_map]; omega
  have hcpos : 0 < c.L.length := by rw [hcL]; have := List.length_pos_iff.2 hkne; simp; omega
  obtain ⟨q, hq⟩ : ∃ q, q + 1 = c.L.length := ⟨c.L.length - 1, by omega⟩
  have hib : i < ((A ++ [k] ++ C).map Ch.b).length := by rw [List.length_map]; omega
  have hgB := H.FB gc gcF
  cases f with
  | false =>
    have ht : if last then k.L ≠ [] else hasKey k.L key.data.toList = true := by
      cases last with
      | true => simpa using hkne
      | false =>
        have hP : Pos I key.data.toList i false := by simpa using hE
        have h1 : hasKey c.L key.data.toList = true := by simpa using hh
        have hs' : Sorted (weave I (A.map Ch.L ++ k.L :: C.map Ch.L)) := by
          have := hs; rw [H.L] at this; simpa using this
        have h2 := (put_place (x := ⟨key, ⟨#[]⟩, 0⟩) (L := k.L) hP hAl hCl hs').2
        have h3 : c.L = weave I (A.map Ch.L ++ k.L :: C.map Ch.L) := by rw [H.L]; simp
        rw [h3] at h1
        have h4 : hasKey k.L key.data.toList = true := by
          have e : (⟨key, ⟨#[]⟩, 0⟩ : It).key = key.data.toList := rfl
          rw [e] at h2
          rw [← h2]; exact h1
        simpa using h4
    refine (rem_down2_raw (q := q) W hsI (by omega) hbl1 key last i (by cases last <;> simp at hE ⊢ <;> exact hE) k.b hkb Ak Ik.length ck kn.c1 (by omega) (by omega) hq (by omega) (RemM w o B d k) (rem_mut hkR hB ho hkz.2)
      (RemN w o B d k gc i key last) (fun w2 kb' w4 m1 m2 m3 m4 => rem_call IH W hB ho hkR hnk hgB i hib hks hkok (by omega) hkz.2 (by omega) key last ht w2 kb' w4 m1 m2 m3 m4)).mono ?_
    rintro e w' ⟨y, rfl, w2, kb', w5, -, ⟨k2, P, Q, r1, r2, r3, r4, r5, r6, rz, r7, r8, r9⟩, hT5, hT', k5, hbox⟩
    have hLq : q = (wpre (A.map Ch.L) (I.take i) ++ (k2.L ++ wpost (I.drop i) (C.map Ch.L))).length := by
      have h1 := congrArg List.length hcL
      rw [r2] at h1
      rw [r3]
      simp at h1 ⊢
      omega
    rw [hLq] at hT'
    obtain ⟨c', q1, q2, q3, q4, q5, q6, q7, q8⟩ := rem_back H hB hol i hA r1 rz ⟨by omega, by omega⟩ r7 r8 r9 _ rfl (hsplit I k2 rfl).symm rfl hT5.c hT'.n hT'.i hT'.c (k5.mono (fun x _ h => h.elim .inl (fun e => .inr (.inr e)))) hbox
    refine ⟨c', y, wpre (A.map Ch.L) (I.take i) ++ P, Q ++ wpost (I.drop i) (C.map Ch.L), rfl, q1, q2, ?_, ?_, ?_, by rw [q4, H.m]; exact Nat.le_refl _, by rw [q4, H.m]; exact Nat.le_refl _, q5, q6, q7, q8⟩
    · rw [hcL, r2]; simp
    · rw [q3, r3]; simp
    · cases last with
      | true =>
        have hi : i = I.length := by simpa using hE
        have hQ : Q = [] := by simpa using r4
        have hd : I.drop i = [] := List.drop_eq_nil_of_le (by omega)
        simp [hQ, hd, wpost_nil]
      | false => simpa using r4
  | true =>
    cases last with
    | true => simp at hE
    | false =>
      have hP : Pos I key.data.toList i true := by simpa using hE
      obtain ⟨x, hx, hxk⟩ := hP.found.1 rfl
      obtain ⟨g, cap', hgv, _⟩ := H.is.at hx
      cases hgv
      have WT : Tri w c.b o c.L.length g cap gc cc I ((A ++ [k] ++ C).map Ch.b) := ⟨H.n, H.is, H.cs, fun e => H.ib (by rw [← e]; rfl), fun e => H.cb (by rw [← e]; rfl), fun e => H.ic g rfl (by rw [e]; rfl)⟩
      have hil := (List.getElem?_eq_some_iff.1 hx).1
      have hxm : x ∈ c.L := by rw [H.L]; exact weave_mem_I hlk (List.mem_of_getElem? hx)
      refine (rem_found_raw (q := q) WT hsI (by omega) hbl1 key i hP x hx (hok x hxm).v k.b hkb Ak Ik.length ck kn.c1 (by omega) (by omega) hq (by omega) (RemM w o B d k) (rem_mut hkR hB ho hkz.2)
        (RemN w o B d k gc i ⟨#[]⟩ true) (fun w2 kb' w4 m1 m2 m3 m4 => (rem_call IH W hB ho hkR hnk hgB i hib hks hkok (by omega) hkz.2 (by omega) ⟨#[]⟩ true (by simpa using hkne) w2 kb' w4 m1 m2 m3 m4).mono (fun e w5 ⟨y, h1, h2, _, h4, h5⟩ => ⟨y, h1, h2, h4, fun x hx => h5 x (by rcases hx with e | e | e | e | e <;> simp [e, Value.ownBlock])⟩))).mono ?_
      rintro e w' ⟨y, rfl, w2, kb', w5, -, ⟨k2, P, Q, r1, r2, r3, r4, r5, r6, rz, r7, r8, r9⟩, hT5, hT', k5, hbox⟩
      have hQ : Q = [] := by simpa using r4
      subst hQ
      rw [List.append_nil] at r3
      have hdx : I.drop i = x :: I.drop (i + 1) := by
        rw [List.drop_eq_getElem_cons hil]
        congr 1
        rw [List.getElem?_eq_getElem hil] at hx
        exact Option.some.inj hx
      have hsetd : (I.set i y).drop i = y :: I.drop (i + 1) := by
        have e1 : (I.set i y)[i]? = some y := by rw [List.getElem?_set_self hil]
        rw [List.drop_eq_getElem_cons (by rw [List.length_set]; exact hil)]
        congr 1
        · simp
        · rw [List.drop_set]; simp
      have hsett : (I.set i y).take i = I.take i := by
        rw [List.take_set]
        exact List.set_eq_of_length_le (by rw [List.length_take]; omega)
      obtain ⟨c1, C1, hC1⟩ : ∃ c1 C1, C.map Ch.L = c1 :: C1 := by
        cases hC : C.map Ch.L with
        | nil => rw [hC] at hCl; simp at hCl; omega
        | cons a b => exact ⟨a, b, rfl⟩
      have hnew := hsplit (I.set i y) k2 (List.length_set)
      rw [hsetd, hsett, hC1, wpost_cons, r3] at hnew
      rw [hdx, hC1, wpost_cons, r2] at hcL
      have hLq : q = (wpre (A.map Ch.L) (I.take i) ++ (P ++ (y :: c1 ++ wpost (I.drop (i + 1)) C1))).length := by
        have h1 := congrArg List.length hcL
        simp at h1 ⊢
        omega
      rw [hLq] at hT'
      rw [← hnew] at hT'
      have hT'' : Tri w' c.b o (weave (I.set i y) ((A ++ [k2] ++ C).map Ch.L)).length g cap gc cc (I.set i y) (((A ++ [k] ++ C).map Ch.b).set i kb') := hT'
      obtain ⟨c', q1, q2, q3, q4, q5, q6, q7, q8⟩ := rem_back H hB hol i hA r1 rz ⟨by omega, by omega⟩ r7 r8 r9 _ (by simp) rfl (by rw [List.length_set]) hT5.c hT''.n hT''.i hT''.c (k5.mono (fun x _ h => h.elim .inl (fun h => .inr (h.elim (fun e => .inl (by rw [e]; rfl)) .inr)))) hbox
      refine ⟨c', x, wpre (A.map Ch.L) (I.take i) ++ (P ++ [y]), c1 ++ wpost (I.drop (i + 1)) C1, rfl, q1, q2, ?_, ?_, by simpa using hxk, by rw [q4, H.m]; exact Nat.le_refl _, by rw [q4, H.m]; exact Nat.le_refl _, q5, q6, q7, q8⟩
      · rw [hcL]; simp
      · rw [q3, hnew]; simp
end Go.Proofs.Qxb6601392a.Bt
