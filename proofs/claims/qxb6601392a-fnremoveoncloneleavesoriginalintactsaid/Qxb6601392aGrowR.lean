import Derived.Test.Qxb6601392aEndD
import Derived.Test.Qxb6601392aGrowB
import Derived.Test.Qxb6601392aRemC
namespace Go.Proofs.Qxb6601392a.Bt
open Go.RowKit

theorem Rep.low {w w' : World} {o B d : Nat} {c : Ch} (h : Rep w o B d c) (hB : B ≤ w.heap.size) (hb : Below w.heap.size w w') : Rep w' o B d c :=
  Rep.keep (fun y hy => hb.block y (by omega)) d c h (fun y hy => hb.block y (h.lt d c y hy))
theorem Kid.low {w w' : World} {o B d : Nat} {v : Value} {K : List It} {F : Nat → Prop} (h : Kid w o B d v K F) (hB : B ≤ w.heap.size) (hb : Below w.heap.size w w') : Kid w' o B d v K F := by
  cases d with
  | zero => exact h
  | succ d =>
    obtain ⟨k, h1, h2, h3⟩ := h
    exact ⟨k, h1, h2.low hB hb, h3⟩
theorem kid_mut {w : World} {o B d : Nat} {k : Ch} (hR : Rep w o B d k) (hB : B ≤ w.heap.size) (ho : OwnerAt w o) (hm : k.m ≤ 63) (w1 : World) (hb1 : Below w.heap.size w w1) :
    Calls Try.prog 37 #[.pointer (some ⟨k.b, 0, none⟩), .pointer (some ⟨o, 0, none⟩)] w1 fun e w2 => ∃ k' : Ch, e = .returned (.pointer (some ⟨k'.b, 0, none⟩)) ∧ Rep w2 o B d k' ∧ k'.L = k.L ∧ k'.m = k.m ∧ k'.fz = false ∧ (∀ y, k'.F y → k.F y ∨ w1.heap.size ≤ y) ∧ Keeps (fun _ => False) w1 w2 := by
  have hs1 := hb1.size
  have hol : o < w.heap.size := (Array.getElem?_eq_some_iff.1 ho).1
  exact mutable_any (hR.low hB hb1) (by omega) ((hb1.block o hol).trans ho) (by omega)

/-- a node's list about item j -/
theorem weave_pair (I : List It) (A C : List (List It)) (L1 L2 : List It) (x : It) (j : Nat) (hA : A.length = j) (hx : I[j]? = some x) (hC : C.length + (j + 1) = I.length) :
    weave I (A ++ L1 :: L2 :: C) = wpre A (I.take j) ++ (L1 ++ x :: (L2 ++ wpost (I.drop (j + 1)) C)) := by
  have hjl := (List.getElem?_eq_some_iff.1 hx).1
  have hI : I = I.take j ++ (x :: I.drop (j + 1)) := by
    obtain ⟨h, rfl⟩ := List.getElem?_eq_some_iff.1 hx
    rw [← List.drop_eq_getElem_cons h, List.take_append_drop]
  have := weave_split A (I.take j) (x :: I.drop (j + 1)) L1 (L2 :: C) (by rw [List.length_take]; omega)
  rw [← hI] at this
  rw [this, wpost_cons]
  simp
theorem weave_pair_set (I : List It) (A C : List (List It)) (L1 L2 : List It) (x y : It) (j : Nat) (hA : A.length = j) (hx : I[j]? = some x) (hC : C.length + (j + 1) = I.length) :
    weave (I.set j y) (A ++ L1 :: L2 :: C) = wpre A (I.take j) ++ (L1 ++ y :: (L2 ++ wpost (I.drop (j + 1)) C)) := by
  have hjl := (List.getElem?_eq_some_iff.1 hx).1
  have hy : (I.set j y)[j]? = some y := by rw [List.getElem?_set_self hjl]
  have := weave_pair (I.set j y) A C L1 L2 y j hA hy (by rw [List.length_set]; exact hC)
  rw [this]
  have e1 : (I.set j y).take j = I.take j := by rw [List.take_set, List.set_eq_of_length_le (by rw [List.length_take]; omega)]
  have e2 : (I.set j y).drop (j + 1) = I.drop (j + 1) := by rw [List.drop_set, if_pos (by omega)]
  rw [e1, e2]

/-- what grow leaves -/
structure Grown (w w' : World) (o B d : Nat) (c : Ch) (I : List It) (i : Nat) : Prop where
  ex : ∃ c' iv' cv' I' ks' i' k', NodeO w' o B d c' iv' cv' I' ks' ∧ c'.b = c.b ∧ c'.L = c.L ∧ c'.m ≤ c.m ∧ c.m ≤ c'.m + 1 ∧ (∀ x, c'.F x → c.F x ∨ w.heap.size ≤ x) ∧ ks'[i']? = some k' ∧ 32 ≤ k'.m ∧
    (∀ key f, Pos I key i f → ∃ f', Pos I' key i' f') ∧ (i = I.length → i' = I'.length)
  keep : Keeps c.F w w'

theorem pos_set_lt {I : List It} {key : Key} {i j : Nat} {f : Bool} {x up : It} (hp : Pos I key i f) (hij : i = j + 1) (hx : I[j]? = some x) (hu : klt up.key x.key = true) : Pos (I.set j up) key i f := by
  have hjl := (List.getElem?_eq_some_iff.1 hx).1
  refine ⟨by rw [List.length_set]; exact hp.le, fun q y hy hq => ?_, fun q y hy hq => ?_, ?_⟩
  · by_cases e : q = j
    · subst e
      rw [List.getElem?_set_self hjl] at hy
      cases hy
      exact klt_trans hu (hp.lt q x hx (by omega))
    · rw [List.getElem?_set_ne (fun h => e h.symm)] at hy
      exact hp.lt q y hy hq
  · rw [List.getElem?_set_ne (by omega)] at hy
    exact hp.ge q y hy hq
  · rw [List.getElem?_set_ne (by omega)]; exact hp.found
theorem pos_set_gt {I : List It} {key : Key} {i : Nat} {f : Bool} {x up : It} (hp : Pos I key i f) (hx : I[i]? = some x) (hu : klt x.key up.key = true) : Pos (I.set i up) key i false := by
  have hjl := (List.getElem?_eq_some_iff.1 hx).1
  have hge := hp.ge i x hx (Nat.le_refl _)
  refine ⟨by rw [List.length_set]; exact hp.le, fun q y hy hq => ?_, fun q y hy hq => ?_, ?_⟩
  · rw [List.getElem?_set_ne (by omega)] at hy
    exact hp.lt q y hy hq
  · by_cases e : q = i
    · subst e
      rw [List.getElem?_set_self hjl] at hy
      cases hy
      cases h : klt up.key key with
      | false => rfl
      | true => rw [klt_trans hu h] at hge; cases hge
    · rw [List.getElem?_set_ne (fun h => e h.symm)] at hy
      exact hp.ge q y hy hq
  · constructor
    · intro h; cases h
    · rintro ⟨y, hy, he⟩
      rw [List.getElem?_set_self hjl] at hy
      cases hy
      rw [he] at hu
      rw [hu] at hge; cases hge


theorem keeps_false_below {w w' : World} (h : Keeps (fun _ => False) w w') : Below w.heap.size w w' := h.below (fun _ e => e.elim) (Nat.le_refl _)

theorem grow1_any {w : World} {o B d : Nat} {c : Ch} {iv cv : Value} {I : List It} {A C : List Ch} {l c0 : Ch} (H : NodeO w o B d c iv cv I (A ++ [l, c0] ++ C)) (hB : B ≤ w.heap.size) (ho : OwnerAt w o) (hs : Sorted c.L) (hok : ∀ y ∈ c.L, y.ok) (hlen : c.L.length ≤ 1000000000) (hI : I.length ≤ 63) (hl : 32 ≤ l.m) (hc : c0.m ≤ 31) (i j : Nat) (hj : A.length = j) (hij : i = j + 1) :
    Calls Try.prog 44 #[.pointer (some ⟨c.b, 0, none⟩), .int .i64 (i : Int), .pointer (some ⟨o, 0, none⟩)] w fun e w' => e = .returned (.tuple #[]) ∧ Grown w w' o B d c I i := by
  have hol : o < w.heap.size := (Array.getElem?_eq_some_iff.1 ho).1
  have hlm : l ∈ A ++ [l, c0] ++ C := by simp
  have hcm : c0 ∈ A ++ [l, c0] ++ C := by simp
  have hlR := H.R l hlm
  have hcR := H.R c0 hcm
  have hld := H.kd l hlm
  have hcd := H.kd c0 hcm
  have hlz := H.z l hlm
  have hcz := H.z c0 hcm
  have hlen2 := H.len
  have hkl : (A ++ [l, c0] ++ C).length = j + 2 + C.length := by simp; omega
  have hlk : ((A ++ [l, c0] ++ C).map Ch.L).length = I.length + 1 := by rw [List.length_map]; exact H.len
  obtain ⟨x, hx⟩ : ∃ x, I[j]? = some x := ⟨_, List.getElem?_eq_getElem (by omega)⟩
  have hxm : x ∈ c.L := by rw [H.L]; exact weave_mem_I hlk (List.mem_of_getElem? hx)
  have hlb : ((A ++ [l, c0] ++ C).map Ch.b)[j]? = some l.b := by rw [← hj]; simp
  have hcb : ((A ++ [l, c0] ++ C).map Ch.b)[i]? = some c0.b := by
    rw [hij, ← hj]
    simp
  obtain ⟨g, cap, rfl, _⟩ := H.is.at hx
  obtain ⟨gc, cc, rfl, _⟩ := OwnC.at H.cs hlb
  have gF : c.F g := (H.F g).2 (.inr (.inl rfl))
  have gcF : c.F gc := (H.F gc).2 (.inr (.inr (.inl rfl)))
  have bF : c.F c.b := (H.F c.b).2 (.inl rfl)
  have hlt : ∀ y, c.F y → y < w.heap.size := H.rep.lt
  have hlF : ∀ y, l.F y → c.F y := fun y hy => (H.F y).2 (.inr (.inr (.inr ⟨l, hlm, hy⟩)))
  have hcF : ∀ y, c0.F y → c.F y := fun y hy => (H.F y).2 (.inr (.inr (.inr ⟨c0, hcm, hy⟩)))
  have hlc : ∀ y, l.F y → ¬ c0.F y := by
    have := (List.pairwise_append.1 (List.pairwise_append.1 H.kk).1).2.1
    exact (List.pairwise_cons.1 this).1 c0 (by simp)
  have hnl : ∀ k, k = c.b ∨ k = g ∨ k = gc → ¬ l.F k ∧ ¬ c0.F k ∧ k < w.heap.size := by
    rintro k (rfl | rfl | rfl)
    · exact ⟨hld.1, hcd.1, hlt _ bF⟩
    · exact ⟨hld.2.1 _ rfl, hcd.2.1 _ rfl, hlt _ gF⟩
    · exact ⟨hld.2.2 _ rfl, hcd.2.2 _ rfl, hlt _ gcF⟩
  have W : Tri w c.b o c.L.length g cap gc cc I ((A ++ [l, c0] ++ C).map Ch.b) := ⟨H.n, H.is, H.cs, fun e => H.ib (by rw [← e]; rfl), fun e => H.cb (by rw [← e]; rfl), fun e => H.ic g rfl (by rw [e]; rfl)⟩
  obtain ⟨_, ivl, _, Il, ln, li, lil⟩ := hlR.node
  obtain ⟨Al, cl, rfl, _, _⟩ := li.form
  have hsubl : l.L.Sublist c.L := by rw [H.L]; exact weave_kid_sub I _ hlk l.L (List.mem_map.2 ⟨l, hlm, rfl⟩)
  have hsubc : c0.L.Sublist c.L := by rw [H.L]; exact weave_kid_sub I _ hlk c0.L (List.mem_map.2 ⟨c0, hcm, rfl⟩)
  have hll := hsubl.length_le
  have hcl := hsubc.length_le
  have hij' : i ≠ j := by omega
  refine (grow1_raw W i j hij x hx l.b c0.b hlb hcb (by omega) (by rw [List.length_map]; omega) Al Il.length cl ln.c1 (by omega) (by omega)
    (fun w2 lb' => ∃ l' : Ch, lb' = l'.b ∧ Rep w2 o B d l' ∧ l'.L = l.L ∧ l'.m = l.m ∧ l'.fz = false ∧ (∀ y, l'.F y → l.F y ∨ (w.heap.size ≤ y ∧ y < w2.heap.size)) ∧ Keeps (fun _ => False) w w2) (fun w1 hb1 => ?_)
    (fun w3 lb' rb' => ∃ l' r' : Ch, lb' = l'.b ∧ rb' = r'.b ∧ Rep w3 o B d l' ∧ Rep w3 o B d r' ∧ l'.L = l.L ∧ l'.m = l.m ∧ l'.fz = false ∧ r'.L = c0.L ∧ r'.m = c0.m ∧ r'.fz = false ∧ (∀ y, l'.F y → l.F y ∨ w.heap.size ≤ y) ∧ (∀ y, r'.F y → c0.F y ∨ w.heap.size ≤ y) ∧ (∀ y, l'.F y → ¬ r'.F y) ∧ Keeps (fun _ => False) w w3) ?_
    (fun w5 rb' up kval => ∃ (r' l2 : Ch) (K : List It) (Fk : Nat → Prop), rb' = r'.b ∧ Kid w5 o B d kval K Fk ∧ Rep w5 o B d l2 ∧ AtEnd true l.L l2.L up K ∧ l2.m + 1 = l.m ∧ l2.fz = false ∧ Rep w5 o B d r' ∧ r'.L = c0.L ∧ r'.m = c0.m ∧ r'.fz = false ∧ (∀ y, l2.F y → l.F y ∨ w.heap.size ≤ y) ∧ (∀ y, Fk y → l.F y ∨ w.heap.size ≤ y) ∧ (∀ y, r'.F y → c0.F y ∨ w.heap.size ≤ y) ∧ (∀ y, l2.F y → ¬ Fk y) ∧ (∀ y, l2.F y → ¬ r'.F y) ∧ (∀ y, Fk y → ¬ r'.F y) ∧ (∀ y, Fk y → y < w5.heap.size) ∧
      Keeps (fun y => l.F y ∨ y = gc ∨ w.heap.size ≤ y) w w5 ∧ w5.cell? ⟨gc, j, none⟩ = some (.pointer (some ⟨l2.b, 0, none⟩)) ∧ w5.cell? ⟨gc, i, none⟩ = some (.pointer (some ⟨r'.b, 0, none⟩))) ?_
    (fun w7 up => ∃ (l2 r2 : Ch) (K : List It), Rep w7 o B d l2 ∧ Rep w7 o B d r2 ∧ AtEnd true l.L l2.L up K ∧ AtEnd false r2.L c0.L x K ∧ l2.m + 1 = l.m ∧ r2.m = c0.m + 1 ∧ (∀ y, l2.F y → l.F y ∨ w.heap.size ≤ y) ∧ (∀ y, r2.F y → (l.F y ∨ c0.F y) ∨ w.heap.size ≤ y) ∧ (∀ y, l2.F y → ¬ r2.F y) ∧
      Keeps (fun y => l.F y ∨ c0.F y ∨ y = gc ∨ w.heap.size ≤ y) w w7 ∧ w7.cell? ⟨gc, j, none⟩ = some (.pointer (some ⟨l2.b, 0, none⟩)) ∧ w7.cell? ⟨gc, i, none⟩ = some (.pointer (some ⟨r2.b, 0, none⟩))) ?_).mono ?_
  · refine (kid_mut hlR hB ho hlz.2 w1 hb1).mono ?_
    rintro e w2 ⟨k', rfl, r1, r2, r3, r4, r5, r6⟩
    have hs1 := hb1.size
    refine ⟨k'.b, rfl, ⟨k', rfl, r1, r2, r3, r4, fun y hy => ?_, (keeps_of_below hb1).trans r6⟩, r6⟩
    rcases r5 y hy with h1 | h1
    · exact .inl h1
    · exact .inr ⟨by omega, r1.lt d k' y hy⟩
  · rintro w2 lb' ⟨l', rfl, q1, q2, q3, q4, q5, q6⟩
    refine (kid_mut hcR hB ho hcz.2 w2 (keeps_false_below q6)).mono ?_
    rintro e w3 ⟨k', rfl, r1, r2, r3, r4, r5, r6⟩
    have hs2 := q6.size
    refine ⟨k'.b, rfl, ⟨l', k', rfl, rfl, q1.low (by omega) (keeps_false_below r6), r1, q2, q3, q4, r2, r3, r4, fun y hy => (q5 y hy).elim .inl (fun e => .inr e.1), fun y hy => ?_, fun y hy hy' => ?_, q6.trans r6⟩, r6⟩
    · rcases r5 y hy with h1 | h1
      · exact .inl h1
      · exact .inr (by omega)
    · rcases r5 y hy' with h1 | h1
      · rcases q5 y hy with h2 | h2
        · exact hlc y h2 h1
        · have := hlt y (hcF y h1); omega
      · have := q1.lt d l' y hy; omega
  · rintro w3 lb' rb' w4 ⟨l', r', rfl, rfl, q1, q2, q3, q4, q5, q6, q7, q8, q9, q10, q11, q12⟩ hT3 hw4
    have hs3 := q12.size
    have hgc := hnl gc (by simp)
    have k34 : Keeps (fun y => y = gc) w3 w4 := by rw [hw4]; exact (((Keeps.refl (fun y => y = gc) w3).setCell (p := ⟨gc, j, none⟩) (.inl rfl) _).setCell (p := ⟨gc, i, none⟩) (.inl rfl) _).drew
    have hs4 := k34.size
    have hgB := (H.FB gc gcF).1
    have hnl' : ∀ k, k = c.b ∨ k = g ∨ k = gc → ¬ l'.F k ∧ ¬ r'.F k := fun k hk => by
      obtain ⟨a1, a2, a3⟩ := hnl k hk
      refine ⟨fun e => ?_, fun e => ?_⟩
      · rcases q9 k e with h1 | h1
        · exact a1 h1
        · omega
      · rcases q10 k e with h1 | h1
        · exact a2 h1
        · omega
    have hl4 : Rep w4 o B d l' := q1.keeps k34 (by omega) (fun y hy => by rw [hy]; exact hgB) (fun y hy e => (hnl' gc (by simp)).1 (e ▸ hy))
    have hr4 : Rep w4 o B d r' := q2.keeps k34 (by omega) (fun y hy => by rw [hy]; exact hgB) (fun y hy e => (hnl' gc (by simp)).2 (e ▸ hy))
    refine (takeEnd_any hl4 (by omega) (by omega) q5 (by omega) (by omega) (fun y hy => hok y (hsubl.subset (by rw [← q3]; exact hy))) (by rw [q3]; omega) true).mono ?_
    rintro e w5 ⟨up, kval, K, Fk, l2, rfl, t1, t2, t3, t4, t5, t6, t7, t8, t9, t10⟩
    have hs5 := t10.size
    have hc4 : ∀ q, w4.cell? ⟨gc, q, none⟩ = w5.cell? ⟨gc, q, none⟩ := fun q => (World.cell?_of_block (w := w4) (a := ⟨gc, q, none⟩) (t10.block gc (by omega) (hnl' gc (by simp)).1)).symm
    have hTc : OwnC w4 (.slice (some ⟨gc, 0, none⟩) ((A ++ [l, c0] ++ C).map Ch.b).length cc) ((((A ++ [l, c0] ++ C).map Ch.b).set j l'.b).set i r'.b) := by
      rw [hw4]; exact OwnC.put' (OwnC.put' hT3.c j l'.b) i r'.b
    have hbl2 : j < ((A ++ [l, c0] ++ C).map Ch.b).length ∧ i < ((A ++ [l, c0] ++ C).map Ch.b).length := by rw [List.length_map]; omega
    refine ⟨up, kval, rfl, ⟨r', l2, K, Fk, rfl, t1, t2, by rw [← q3]; exact t4, by omega, t6, hr4.keeps t10 (by omega) (fun y hy => (hl4.FB y hy).1) (fun y hy hy' => q11 y hy' hy), q6, q7, q8, fun y hy => ?_, fun y hy => q9 y (t8 y hy), q10, t9, fun y hy hy' => ?_, fun y hy hy' => q11 y (t8 y hy) hy', fun y hy => ?_, ?_, ?_, ?_⟩, hs5, fun k hk => t10.block k (by have := (hnl k hk).2.2; omega) (hnl' k hk).1⟩
    · rcases t7 y hy with h1 | h1
      · exact q9 y h1
      · exact .inr (by omega)
    · rcases t7 y hy with h1 | h1
      · exact q11 y h1 hy'
      · have := hr4.lt d r' y hy'; omega
    · have := hl4.lt d l' y (t8 y hy); omega
    · exact ((q12.mono (fun _ _ h => h.elim)).andThen k34 (fun y _ hy => .inr (.inl hy))).andThen t10 (fun y hy hy' => by
        rcases q9 y hy' with h1 | h1
        · exact .inl h1
        · omega)
    · rw [← hc4, t3]
      refine (hTc.cell (k := j) ?_).1
      rw [List.getElem?_set_ne hij', List.getElem?_set_self hbl2.1]
    · rw [← hc4]
      refine (hTc.cell (k := i) ?_).1
      rw [List.getElem?_set_self (by rw [List.length_set]; exact hbl2.2)]
  · rintro w5 rb' up kval w6 ⟨r', l2, K, Fk, rfl, t1, t2, t4, t5, t6, u1, u2, u3, u4, v1, v2, v3, v4, v5, v6, v7, v8, v9, v10⟩ hb6 hs6 hb5
    have hs5 := v8.size
    have hr6 := u1.low (by omega) hb6
    have hl6 := t2.low (by omega) hb6
    have hKlen : K.length ≤ 1000000000 := by
      have := congrArg List.length (show l.L = l2.L ++ up :: K by simpa [AtEnd] using t4)
      simp at this; omega
    have hnr : ∀ k, k = c.b ∨ k = g ∨ k = gc → ¬ r'.F k := fun k hk e => by
      obtain ⟨a1, a2, a3⟩ := hnl k hk
      rcases v3 k e with h1 | h1
      · exact a2 h1
      · omega
    refine (putEnd_any hr6 (by omega) (by omega) u4 (by omega) (by rw [u2]; omega) x (hok x hxm) kval K Fk (t1.low (by omega) hb6) hKlen v6 false).mono ?_
    rintro e w7 ⟨r2, rfl, z1, z2, z3, z4, z5, z6, z7⟩
    have hs7 := z7.size
    have hc7 : ∀ q, w7.cell? ⟨gc, q, none⟩ = w5.cell? ⟨gc, q, none⟩ := fun q => (World.cell?_of_block (w := w6) (a := ⟨gc, q, none⟩) (z7.block gc (by have := (hnl gc (by simp)).2.2; omega) (hnr gc (by simp)))).trans (World.cell?_of_block (w := w5) (a := ⟨gc, q, none⟩) (hb6.block gc (by have := (hnl gc (by simp)).2.2; omega)))
    refine ⟨rfl, ⟨l2, r2, K, hl6.keeps z7 (by omega) (fun y hy => (hr6.FB y hy).1) (fun y hy => v5 y hy), z1, t4, by rw [← u2]; exact z3, t5, by omega, v1, fun y hy => ?_, fun y hy hy' => ?_, ?_, (hc7 j).trans v9, by rw [z2]; exact (hc7 i).trans v10⟩, fun k hk => z7.block k ?_ (fun e => ?_)⟩
    · rcases z6 y hy with h1 | h1 | h1
      · exact (v3 y h1).elim (fun e => .inl (.inr e)) .inr
      · exact (v2 y h1).elim (fun e => .inl (.inl e)) .inr
      · exact .inr (by omega)
    · rcases z6 y hy' with h1 | h1 | h1
      · exact v5 y hy h1
      · exact v4 y hy h1
      · have := t2.lt d l2 y hy; omega
    · exact ((v8.mono (fun y _ hy => by
        rcases hy with h1 | h1 | h1
        · exact .inl h1
        · exact .inr (.inr (.inl h1))
        · exact .inr (.inr (.inr h1)))).andThen (keeps_of_below (S := fun _ => False) hb6) (fun _ _ h => h.elim)).andThen z7 (fun y hy hy' => by
        rcases v3 y hy' with h1 | h1
        · exact .inr (.inl h1)
        · omega)
    · rcases hk with h1 | h1 | h1 | h1
      · have := (hnl k (by simp [h1])).2.2; omega
      · have := (hnl k (by simp [h1])).2.2; omega
      · have := (hnl k (by simp [h1])).2.2; omega
      · omega
    · rcases hk with h1 | h1 | h1 | h1
      · exact hnr k (by simp [h1]) e
      · exact hnr k (by simp [h1]) e
      · exact hnr k (by simp [h1]) e
      · have := u1.lt d r' k e; omega
  · rintro e w' ⟨rfl, w3, lb', rb', up, w7, -, ⟨l2, r2, K, p1, p2, p3, p4, p5, p6, p7, p8, p9, p10, p11, p12⟩, hT7, hw'⟩
    have hs7 := p10.size
    have hbl2 : j < ((A ++ [l, c0] ++ C).map Ch.b).length ∧ i < ((A ++ [l, c0] ++ C).map Ch.b).length := by rw [List.length_map]; omega
    have e1 : lb' = l2.b := by
      have h1 := (hT7.c.cell (k := j) (b := lb') (by rw [List.getElem?_set_ne hij', List.getElem?_set_self hbl2.1])).1
      have := h1.symm.trans p11
      simpa using this
    have e2 : rb' = r2.b := by
      have h1 := (hT7.c.cell (k := i) (b := rb') (by rw [List.getElem?_set_self (by rw [List.length_set]; exact hbl2.2)])).1
      have := h1.symm.trans p12
      simpa using this
    subst e1 e2
    have k7 : Keeps (fun y => y = g) w7 w' := by
      rw [hw']
      exact ((((Keeps.refl (fun y => y = g) w7).setCell (p := ⟨g, j * 3, none⟩) (.inl rfl) _).setCell (p := ⟨g, j * 3 + 1, none⟩) (.inl rfl) _).setCell (p := ⟨g, j * 3 + 2, none⟩) (.inl rfl) _).drew
    have hgn := hnl g (by simp)
    have hgB := (H.FB g gF).1
    have hg2 : ¬ l2.F g ∧ ¬ r2.F g := by
      refine ⟨fun e => ?_, fun e => ?_⟩
      · rcases p7 g e with h1 | h1
        · exact hgn.1 h1
        · omega
      · rcases p8 g e with (h1 | h1) | h1
        · exact hgn.1 h1
        · exact hgn.2.1 h1
        · omega
    have hl' : Rep w' o B d l2 := p1.keeps k7 (by omega) (fun y hy => by rw [hy]; exact hgB) (fun y hy e => hg2.1 (e ▸ hy))
    have hr' : Rep w' o B d r2 := p2.keeps k7 (by omega) (fun y hy => by rw [hy]; exact hgB) (fun y hy e => hg2.2 (e ▸ hy))
    have hbs : ((((A ++ [l, c0] ++ C).map Ch.b).set j l2.b).set i r2.b) = (A ++ [l2, r2] ++ C).map Ch.b := by
      rw [hij, ← hj]; simp
    have hbl : ((((A ++ [l, c0] ++ C).map Ch.b).set j l2.b).set i r2.b).length = ((A ++ [l, c0] ++ C).map Ch.b).length := by rw [List.length_set, List.length_set]
    have hCl : (C.map Ch.L).length + (j + 1) = I.length := by rw [List.length_map]; omega
    have hAl : (A.map Ch.L).length = j := by rw [List.length_map]; exact hj
    have hLl : l.L = l2.L ++ up :: K := by simpa [AtEnd] using p3
    have hLr : r2.L = K ++ x :: c0.L := by simpa [AtEnd] using p4
    have hw1 : c.L = wpre (A.map Ch.L) (I.take j) ++ (l.L ++ x :: (c0.L ++ wpost (I.drop (j + 1)) (C.map Ch.L))) := by
      rw [H.L, List.map_append, List.map_append]
      simp only [List.map_cons, List.map_nil, List.append_assoc, List.cons_append, List.nil_append]
      exact weave_pair I _ _ l.L c0.L x j hAl hx hCl
    have hw2 : c.L = weave (I.set j up) ((A ++ [l2, r2] ++ C).map Ch.L) := by
      rw [List.map_append, List.map_append]
      simp only [List.map_cons, List.map_nil, List.append_assoc, List.cons_append, List.nil_append]
      rw [weave_pair_set I _ _ l2.L r2.L x up j hAl hx hCl, hw1, hLl, hLr]
      simp
    have hup : klt up.key x.key = true := by
      have h1 := hs
      rw [hw1] at h1
      exact h1.right.cross (x := up) (y := x) (by rw [hLl]; simp) (by simp)
    obtain ⟨c', q1, q2, q3, q4, q5, q6, q7⟩ := node_build H hB hol w7.heap.size hs7 [l2, r2] (.slice (some ⟨g, 0, none⟩) I.length cap) (.slice (some ⟨gc, 0, none⟩) ((A ++ [l, c0] ++ C).map Ch.b).length cc) (I.set j up) c.L ((p10.mono (fun y _ hy => by
        rcases hy with h1 | h1 | h1 | h1
        · exact .inr (.inr (.inr ⟨l, by simp, h1⟩))
        · exact .inr (.inr (.inr ⟨c0, by simp, h1⟩))
        · exact .inr (.inr (.inl (by rw [h1]; rfl)))
        · omega)).andThen k7 (fun y _ hy => .inr (.inl (by rw [hy]; rfl))))
      (by have h1 := hT7.n; rw [hbl] at h1; exact h1.of_block (k7.block c.b h1.lt (fun e => hT7.gb e.symm)))
      (by rw [hw']; exact (OwnI.put3 hT7.i j up).of_block (fun _ _ => rfl))
      (by have h1 := hT7.c; rw [hbl, hbs] at h1; exact h1.of_block (fun k hk => k7.block k (h1.blk k hk) (fun e => hT7.gg (by simp [Value.ownBlock] at hk; omega))))
      (by rw [List.length_set]; simp; omega) hw2 (fun k hk => by
        simp at hk
        rcases hk with rfl | rfl
        · exact hl'
        · exact hr') (fun k hk => by
        simp at hk
        rcases hk with rfl | rfl <;> omega) (fun k hk y hy => by
        simp at hk
        rcases hk with rfl | rfl
        · rcases p7 y hy with h1 | h1
          · exact .inl ⟨l, by simp, h1⟩
          · exact .inr ⟨h1, p1.lt d _ y hy⟩
        · rcases p8 y hy with (h1 | h1) | h1
          · exact .inl ⟨l, by simp, h1⟩
          · exact .inl ⟨c0, by simp, h1⟩
          · exact .inr ⟨h1, p2.lt d _ y hy⟩) (by simp; exact p9) (fun y hy => .inl hy) (fun y hy => .inl hy) (fun y hy hy' => H.ic y hy' hy)
    refine ⟨rfl, ⟨c', _, _, _, _, i, r2, q1, q2, q3, by rw [q4, List.length_set, H.m]; omega, by rw [q4, List.length_set, H.m]; omega, q6, ?_, by omega, fun key f hp => ⟨f, pos_set_lt hp hij hx hup⟩, fun h => by rw [List.length_set]; exact h⟩, q7⟩
    rw [hij, ← hj]; simp
end Go.Proofs.Qxb6601392a.Bt
