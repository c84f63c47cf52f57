import Derived.Test.Qxb6601392aRemF
import Derived.Test.Qxb6601392aRemA
import Derived.Test.Qxb6601392aRemD
import Derived.Test.Qxb6601392aGrowW
namespace Go.Proofs.Qxb6601392a.Bt
open Go.RowKit

theorem NodeO.low {w w' : World} {o B d : Nat} {c : Ch} {iv cv : Value} {I : List It} {ks : List Ch} (h : NodeO w o B d c iv cv I ks) (hB : B ≤ w.heap.size) (hb : Below w.heap.size w w') : NodeO w' o B d c iv cv I ks :=
  ⟨h.fz, h.n.of_block (hb.block _ h.n.lt), h.is.of_block (fun k hk => hb.block k (h.is.blk k hk)), h.cs.of_block (fun k hk => hb.block k (h.cs.blk k hk)), h.len, h.m, h.L, fun k hk => (h.R k hk).low hB hb, h.z, h.F, h.FB, h.ib, h.cb, h.ic, h.kd, h.kk⟩

theorem NodeO.keeps {w w' : World} {o B d : Nat} {c : Ch} {iv cv : Value} {I : List It} {ks : List Ch} {S : Nat → Prop} (h : NodeO w o B d c iv cv I ks) (hk : Keeps S w w') (hB : B ≤ w.heap.size) (hSB : ∀ x, S x → B ≤ x) (hS : ∀ x, c.F x → ¬ S x) : NodeO w' o B d c iv cv I ks :=
  ⟨h.fz, h.n.of_block (hk.block _ h.n.lt (hS _ ((h.F _).2 (.inl rfl)))), h.is.of_block (fun k e => hk.block k (h.is.blk k e) (hS k ((h.F k).2 (.inr (.inl e))))), h.cs.of_block (fun k e => hk.block k (h.cs.blk k e) (hS k ((h.F k).2 (.inr (.inr (.inl e)))))), h.len, h.m, h.L, fun k e => (h.R k e).keeps hk hB hSB (fun x hx => hS x ((h.F x).2 (.inr (.inr (.inr ⟨k, e, hx⟩))))), h.z, h.F, h.FB, h.ib, h.cb, h.ic, h.kd, h.kk⟩

theorem pos_has {L : List It} {k : Key} {i : Nat} {f : Bool} (hs : Sorted L) (hp : Pos L k i f) (hh : hasKey L k = true) : f = true := by
  obtain ⟨y, hy, hyk⟩ := (hasKey_iff L k).1 hh
  obtain ⟨j, hj⟩ := List.mem_iff_getElem?.1 hy
  have hjl := (List.getElem?_eq_some_iff.1 hj).1
  rcases Nat.lt_trichotomy j i with h | h | h
  · have h1 := hp.lt j y hj h
    rw [hyk, klt_irrefl] at h1
    cases h1
  · exact hp.found.2 ⟨y, h ▸ hj, hyk⟩
  · obtain ⟨x, hx⟩ : ∃ x, L[i]? = some x := ⟨_, List.getElem?_eq_getElem (by omega)⟩
    have h1 := hp.ge i x hx (Nat.le_refl _)
    have h2 := hs.get hx hj h
    rw [hyk, h1] at h2
    cases h2

theorem one_split {α : Type} {l : List α} {j : Nat} {a : α} (ha : l[j]? = some a) : ∃ A C, l = A ++ [a] ++ C ∧ A.length = j := by
  have h1 := (List.getElem?_eq_some_iff.1 ha).1
  refine ⟨l.take j, l.drop (j + 1), ?_, by rw [List.length_take]; omega⟩
  have e1 := List.take_append_drop j l
  have e2 : l.drop j = a :: l.drop (j + 1) := by
    rw [List.drop_eq_getElem_cons h1]
    congr 1
    rw [List.getElem?_eq_getElem h1] at ha
    exact Option.some.inj ha
  rw [e2] at e1
  rw [List.append_assoc]
  exact e1.symm

theorem rem_leaf : RemOk 0 := by
  intro w o B c key last hR hf hB ho hs hok hlen hm _ ht
  have hol : o < w.heap.size := (Array.getElem?_eq_some_iff.1 ho).1
  obtain ⟨iv, cv, H⟩ := hR.leafO hf
  have hml := H.m
  obtain ⟨i, hE, hil⟩ : ∃ i, (if last then i + 1 = c.L.length else Pos c.L key.data.toList i true) ∧ i < c.L.length := by
    cases last with
    | true =>
      have h1 : c.L ≠ [] := by simpa using ht
      have h2 := List.length_pos_iff.2 h1
      exact ⟨c.L.length - 1, by simp; omega, by omega⟩
    | false =>
      obtain ⟨i, f, hp⟩ := pos_exists c.L key.data.toList hs
      obtain rfl := pos_has hs hp (by simpa using ht)
      obtain ⟨x, hx, _⟩ := hp.found.1 rfl
      exact ⟨i, by simpa using hp, (List.getElem?_eq_some_iff.1 hx).1⟩
  obtain ⟨it, hit⟩ : ∃ it, c.L[i]? = some it := ⟨_, List.getElem?_eq_getElem hil⟩
  have hq : (c.L.take i ++ c.L.drop (i + 1)).length + 1 = c.L.length := by simp; omega
  refine (remove_leaf_raw H.way hs key last i hE it hit (hok it (List.mem_of_getElem? hit)).v (by omega) hq (by omega)).mono ?_
  rintro e w' ⟨iv', cv', rfl, W⟩
  obtain ⟨c', q1, q2, q3, q4, q5, q6, q7⟩ := H.build hB hol W
  obtain ⟨A, C, hAC, hA⟩ := one_split hit
  have e1 : c.L.take i = A := by rw [hAC, ← hA, List.append_assoc, List.take_left]
  have e2 : c.L.drop (i + 1) = C := by
    have : (A ++ [it]).length = i + 1 := by simp [hA]
    rw [hAC, ← this, List.drop_left]
  refine ⟨c', it, A, C, rfl, q1, q2, by rw [hAC]; simp, by rw [q3, e1, e2], ?_, by omega, by omega, q5, q6, q7, fun _ => trivial⟩
  cases last with
  | true =>
    have h1 : i + 1 = c.L.length := by simpa using hE
    have h2 := congrArg List.length hAC
    simp at h2
    have : C.length = 0 := by omega
    simpa using List.length_eq_zero_iff.1 this
  | false =>
    have hp : Pos c.L key.data.toList i true := by simpa using hE
    obtain ⟨x, hx, hxk⟩ := hp.found.1 rfl
    rw [hit] at hx
    cases hx
    simpa using hxk

theorem rem_inner {d : Nat} (IH : RemOk d) : RemOk (d + 1) := by
  intro w o B c key last hR hf hB ho hs hok hlen hm hm1 ht
  have hol : o < w.heap.size := (Array.getElem?_eq_some_iff.1 ho).1
  obtain ⟨iv, cv, I, ks, H⟩ := hR.nodeO hf
  have hIm := H.m
  have hI1 : 1 ≤ I.length := by have := hm1 (by omega); omega
  have hlen2 := H.len
  have hlk : (ks.map Ch.L).length = I.length + 1 := by rw [List.length_map]; exact H.len
  have hsI : Sorted I := by
    have := weave_sub I _ hlk
    rw [← H.L] at this
    exact hs.sublist this
  have hh : if last then True else hasKey c.L key.data.toList = true := by
    cases last with
    | true => simp
    | false => simpa using ht
  obtain ⟨i, f, hE, hiI⟩ : ∃ i f, (if last then i = I.length ∧ f = false else Pos I key.data.toList i f) ∧ i ≤ I.length := by
    cases last with
    | true => exact ⟨I.length, false, by simp, Nat.le_refl _⟩
    | false =>
      obtain ⟨i, f, hp⟩ := pos_exists I key.data.toList hsI
      exact ⟨i, f, by simpa using hp, hp.le⟩
  obtain ⟨k, hk⟩ : ∃ k, ks[i]? = some k := ⟨_, List.getElem?_eq_getElem (by omega)⟩
  by_cases hkm : 32 ≤ k.m
  · obtain ⟨A, C, rfl, hA⟩ := one_split hk
    exact (rem_ng IH H hB ho hs hok hlen (by omega) hkm key last i f hA hE hh).mono (fun e w' ⟨c', it, P, Q, t0, t1, t2, t3, t4, t5, t6, t7, t8⟩ => ⟨c', it, P, Q, t0, t1, t2, t3, t4, t5, t6, by omega, t8⟩)
  · have hkR := H.R k (List.mem_of_getElem? hk)
    obtain ⟨x0, hx0⟩ : ∃ x0, I[0]? = some x0 := ⟨_, List.getElem?_eq_getElem (by omega)⟩
    obtain ⟨g, cap, rfl, _⟩ := H.is.at hx0
    have hkb : (ks.map Ch.b)[i]? = some k.b := by rw [List.getElem?_map, hk]; rfl
    obtain ⟨gc, cc, rfl, _⟩ := OwnC.at H.cs hkb
    have W : Tri w c.b o c.L.length g cap gc cc I (ks.map Ch.b) := ⟨H.n, H.is, H.cs, fun e => H.ib (by rw [← e]; rfl), fun e => H.cb (by rw [← e]; rfl), fun e => H.ic g rfl (by rw [e]; rfl)⟩
    obtain ⟨_, ivk, _, Ik, kn, ki, kil⟩ := hkR.node
    obtain ⟨Ak, ck, rfl, _, _⟩ := ki.form
    have hlt : ∀ y, c.F y → y < w.heap.size := H.rep.lt
    have hbox : ¬ c.F w.heap.size := fun h => by have := hlt _ h; omega
    have hoF : ¬ c.F o := fun h => (H.FB o h).2 rfl
    refine (rem_grow_raw W hsI (by omega) (by rw [List.length_map]; omega) key last i f hE k.b hkb Ak Ik.length ck kn.c1 (by omega)
      (fun w2 => ∃ w1, Below w.heap.size w w1 ∧ w.heap.size < w1.heap.size ∧ Grown w1 w2 o B d c I i) (fun w1 hb1 hs1 => ?_)
      (fun w3 y => ∃ (c' : Ch) (P Q : List It), Rep w3 o B (d + 1) c' ∧ c'.b = c.b ∧ c.L = P ++ y :: Q ∧ c'.L = P ++ Q ∧ (if last then Q = [] else y.key = key.data.toList) ∧ c'.m ≤ c.m ∧ c.m ≤ c'.m + 1 ∧ c'.fz = false ∧ (∀ x, c'.F x → c.F x ∨ w.heap.size < x) ∧ Keeps c.F w w3 ∧ (c'.m = 0 → Lone w3 o B (d + 1) c')) ?_).mono ?_
    · refine (grow_any (H.low hB hb1) (by omega) ((hb1.block o hol).trans ho) hs hok hlen (by omega) hI1 i hk (by omega)).mono ?_
      rintro e w2 ⟨rfl, hG⟩
      exact ⟨rfl, ⟨w1, hb1, hs1, hG⟩, hG.keep.block _ hs1 hbox⟩
    · rintro w2 ⟨w1, hb1, hs1, hG⟩
      have hs2 := hG.keep.size
      obtain ⟨c', iv', cv', I', ks', i', k', q1, q2, q3, q4, q5, q6, q7, q8, q9, q10⟩ := hG.ex
      have hI' := q1.m
      obtain ⟨A', C', rfl, hA'⟩ := one_split q7
      obtain ⟨f', hE'⟩ : ∃ f', (if last then i' = I'.length ∧ f' = false else Pos I' key.data.toList i' f') := by
        cases last with
        | true =>
          have hi : i = I.length := by
            have : i = I.length ∧ f = false := by simpa using hE
            exact this.1
          exact ⟨false, by simpa using q10 hi⟩
        | false =>
          have hp : Pos I key.data.toList i f := by simpa using hE
          obtain ⟨f', hp'⟩ := q9 _ f hp
          exact ⟨f', by simpa using hp'⟩
      have ho2 : OwnerAt w2 o := (hG.keep.block o (by omega) hoF).trans ((hb1.block o hol).trans ho)
      have hF' : ∀ x, c'.F x → c.F x ∨ w1.heap.size ≤ x := q6
      have hbox' : ¬ c'.F w.heap.size := fun h => by
        rcases hF' _ h with h | h
        · exact hbox h
        · omega
      have hc := rem_ng IH q1 (by omega) ho2 (by rw [q3]; exact hs) (by rw [q3]; exact hok) (by rw [q3]; exact hlen) (by omega) q8 key last i' f' hA' hE' (by rw [q3]; exact hh)
      rw [q2] at hc
      refine hc.mono ?_
      rintro e w3 ⟨c2, it, P, Q, rfl, t1, t2, t3, t4, t5, t6, t7, t8, t9, t10, t11⟩
      refine ⟨it, rfl, ⟨c2, P, Q, t1, by rw [t2, q2], by rw [← q3]; exact t3, t4, t5, by omega, by omega, t8, fun x hx => ?_, ?_, t11⟩, t10.block _ (by omega) hbox'⟩
      · rcases t9 x hx with h | h
        · rcases hF' x h with h | h
          · exact .inl h
          · exact .inr (by omega)
        · exact .inr (by omega)
      · exact ((keeps_of_below hb1).trans (hG.keep)).andThen t10 (fun x hx h => by
          rcases hF' x h with h | h
          · exact h
          · omega)
    · rintro e w' ⟨y, rfl, w3, ⟨c', P, Q, t1, t2, t3, t4, t5, t6, t7, t8, t9, t10, t11⟩, k3, hs3⟩
      have hsz := t10.size
      refine ⟨c', y, P, Q, rfl, t1.keeps k3 (by omega) (fun x hx => by omega) (fun x hx e => ?_), t2, t3, t4, t5, t6, t7, t8, fun x hx => ?_, t10.andThen k3 (fun x hx e => by omega), fun hm0 => ?_⟩
      · rcases t9 x hx with h | h
        · have := hlt x h; omega
        · omega
      · rcases t9 x hx with h | h
        · exact .inl h
        · exact .inr (by omega)
      · obtain ⟨iv2, cv2, k2, hN, hk2⟩ := t11 hm0
        exact ⟨iv2, cv2, k2, hN.keeps k3 (by omega) (fun x hx => by omega) (fun x hx e => by
          rcases t9 x hx with h | h
          · have := hlt x h; omega
          · omega), hk2⟩

theorem remOk : ∀ d, RemOk d
  | 0 => rem_leaf
  | d + 1 => rem_inner (remOk d)
end Go.Proofs.Qxb6601392a.Bt
