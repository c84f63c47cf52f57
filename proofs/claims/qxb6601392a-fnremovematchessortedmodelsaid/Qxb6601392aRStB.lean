import Derived.Test.Qxb6601392aRemH
import Derived.Test.Qxb6601392aRStA
namespace Go.Proofs.Qxb6601392a.Bt
open Go.RowKit

/-- the root behind a remove -/
theorem next_root {w : World} {o B d : Nat} {c : Ch} (h : Rep w o B d c) (hf : c.fz = false) (hm : c.m ≤ 63) (hl : c.m = 0 → Lone w o B d c) :
    ∃ d' k, Next w c.b o k.b ∧ Rep w o B d' k ∧ k.fz = false ∧ k.L = c.L ∧ k.m ≤ 63 ∧ (0 < d' → 1 ≤ k.m) ∧ ∀ y, k.F y → c.F y := by
  cases d with
  | zero =>
    obtain ⟨iv, cv, H⟩ := h.leafO hf
    obtain ⟨A, ci, rfl, _, _⟩ := H.way.i.form
    obtain ⟨Ac, cc, rfl, _, _⟩ := H.way.c.form
    have hml := H.m
    refine ⟨0, c, ⟨A, _, ci, Ac, _, cc, _, H.way.n, by omega, by simp, ?_⟩, h, hf, rfl, hm, fun e => by omega, fun y hy => hy⟩
    by_cases h0 : 0 < c.L.length
    · exact .inl ⟨h0, rfl⟩
    · exact .inr (.inl ⟨by omega, rfl, rfl⟩)
  | succ d =>
    by_cases h0 : c.m = 0
    · obtain ⟨iv, cv, k, H, hk⟩ := hl h0
      obtain ⟨A, ci, rfl, _, _⟩ := H.is.form
      obtain ⟨gc, cc, rfl, hcell, _⟩ := OwnC.at H.cs (k := 0) (b := k.b) rfl
      have hz := H.z k (by simp)
      refine ⟨d, k, ⟨A, _, ci, _, _, cc, _, H.n, by simp, by simp, .inr (.inr ⟨rfl, by simp, gc, rfl, hcell⟩)⟩, H.R k (by simp), hk, ?_, hz.2, fun _ => by omega, fun y hy => (H.F y).2 (.inr (.inr (.inr ⟨k, by simp, hy⟩)))⟩
      rw [H.L]; simp [weave, wpost]
    · obtain ⟨iv, cv, I, ks, H⟩ := h.nodeO hf
      obtain ⟨A, ci, rfl, _, _⟩ := H.is.form
      obtain ⟨Ac, cc, rfl, _, _⟩ := H.cs.form
      have hmI := H.m
      have hlen := H.len
      exact ⟨d + 1, c, ⟨A, _, ci, Ac, _, cc, _, H.n, by omega, by rw [List.length_map]; omega, .inl ⟨by omega, rfl⟩⟩, h, hf, rfl, hm, fun _ => by omega, fun y hy => hy⟩

/-- where the removed item lay -/
theorem rem_at {L P Q : List It} {it : It} {key : Key} {last : Bool} {i : Nat} (hs : Sorted L) (hL : L = P ++ it :: Q) (h : if last then Q = [] else it.key = key) (hE : if last then i + 1 = L.length else Pos L key i true) : P.length = i := by
  have hg : L[P.length]? = some it := by rw [hL]; simp
  cases last with
  | true =>
    have hQ : Q = [] := by simpa using h
    have hi : i + 1 = L.length := by simpa using hE
    rw [hL, hQ] at hi
    simp at hi
    omega
  | false =>
    have hk : it.key = key := by simpa using h
    have hp : Pos L key i true := by simpa using hE
    rcases Nat.lt_trichotomy P.length i with hlt | hlt | hlt
    · have h1 := hp.lt _ it hg hlt
      rw [hk, klt_irrefl] at h1
      cases h1
    · exact hlt
    · obtain ⟨x, hx, hxk⟩ := hp.found.1 rfl
      have h1 := hs.get hx hg hlt
      rw [hxk, hk, klt_irrefl] at h1
      cases h1

def RStepPost (w : World) (o B : Nat) (c : Ch) (kv ev : Value) (nb : Nat) (kv' ev' : Value) (w' : World) : Prop :=
  ∃ d' c', c'.b = nb ∧ St w' o B d' c' kv' ev' ∧ c'.L.length ≤ c.L.length ∧ (∀ y, (c'.F y ∨ kv'.ownBlock = some y ∨ ev'.ownBlock = some y) → (c.F y ∨ kv.ownBlock = some y ∨ ev.ownBlock = some y) ∨ w.heap.size ≤ y) ∧ Keeps (fun y => c.F y ∨ kv.ownBlock = some y ∨ ev.ownBlock = some y) w w'

theorem St.below {w w' : World} {o B d : Nat} {c : Ch} {kv ev : Value} (h : St w o B d c kv ev) (hb : Below w.heap.size w w') : St w' o B d c kv ev :=
  ⟨h.root.below hb, h.m.keeps (keeps_of_below (S := fun _ => False) hb) (fun _ _ e => e), h.sep⟩

theorem remStep_any {w : World} {o B d : Nat} {c : Ch} {kv ev : Value} (h : St w o B d c kv ev) (hlen : c.L.length ≤ 100000) (key : ByteArray) (last : Bool) :
    Calls Try.prog 23 #[.pointer (some ⟨c.b, 0, none⟩), .agg #[.string key, .bool last], .pointer (some ⟨o, 0, none⟩), kv, ev] w fun e w3 => ∃ nb kv' ev', e = .returned (.tuple #[.pointer (some ⟨nb, 0, none⟩), kv', ev', .bool true]) ∧ RStepPost w o B c kv ev nb kv' ev' w3 := by
  have hB := h.root.hB
  have hol : o < w.heap.size := (Array.getElem?_eq_some_iff.1 h.root.ho).1
  have hlt : ∀ y, c.F y → y < w.heap.size := h.root.rep.lt d c
  have hml : ∀ y, (kv.ownBlock = some y ∨ ev.ownBlock = some y) → y < w.heap.size := fun y hy => hy.elim (h.m.k.blk y) (h.m.e.blk y)
  have hoF : ∀ y, c.F y → B ≤ y ∧ y ≠ o := h.root.rep.FB
  by_cases hno : (if last then c.L = [] else ∃ i, Pos c.L key.data.toList i false)
  · refine (remStep_none h.m h.root.sorted hlen key last hno).mono ?_
    rintro e w' ⟨rfl, hb⟩
    exact ⟨c.b, kv, ev, rfl, d, c, rfl, h.below hb, Nat.le_refl _, fun y hy => .inl hy, keeps_of_below hb⟩
  · obtain ⟨i, hE, hil, ht⟩ : ∃ i, (if last then i + 1 = c.L.length else Pos c.L key.data.toList i true) ∧ i < c.L.length ∧ (if last then c.L ≠ [] else hasKey c.L key.data.toList = true) := by
      cases last with
      | true =>
        have h1 : c.L ≠ [] := by simpa using hno
        have h2 := List.length_pos_iff.2 h1
        exact ⟨c.L.length - 1, by simp; omega, by omega, by simpa using h1⟩
      | false =>
        obtain ⟨i, f, hp⟩ := pos_exists c.L key.data.toList h.root.sorted
        cases f with
        | false =>
          have h1 : ∀ x, ¬ Pos c.L key.data.toList x false := by simpa using hno
          exact absurd hp (h1 i)
        | true =>
          obtain ⟨x, hx, hxk⟩ := hp.found.1 rfl
          exact ⟨i, by simpa using hp, (List.getElem?_eq_some_iff.1 hx).1, by simpa using (hasKey_iff _ _).2 ⟨x, List.mem_of_getElem? hx, hxk⟩⟩
    obtain ⟨x, hx⟩ : ∃ x, c.L[i]? = some x := ⟨_, List.getElem?_eq_getElem hil⟩
    have hsub : (c.L.take i ++ c.L.drop (i + 1)).Sublist c.L := by
      have h1 : (c.L.take i ++ c.L.drop (i + 1)).Sublist (c.L.take i ++ c.L.drop i) := List.Sublist.append (List.Sublist.refl _) (by
        have := List.drop_sublist 1 (c.L.drop i)
        rwa [List.drop_drop] at this)
      rwa [List.take_append_drop] at h1
    refine remStep_raw h.m h.root.sorted hlen key last i hE x hx
      (fun nb w2 => ∃ d' k, k.b = nb ∧ Root w2 o B d' k ∧ k.L = c.L.take i ++ c.L.drop (i + 1) ∧ (∀ y, k.F y → c.F y ∨ w.heap.size + 2 ≤ y) ∧ Keeps c.F w w2 ∧ w.heap.size + 2 ≤ w2.heap.size) (fun w1 hb1 hsz1 => ?_)
      (fun nb kv' ev' w3 => RStepPost w o B c kv ev nb kv' ev' w3) ?_ ?_
    · have hR1 := h.root.below hb1
      refine (wrap_remove _ _ _ _ x w1 (fun w' => ∃ c', Rep w' o B d c' ∧ c'.b = c.b ∧ c'.L = c.L.take i ++ c.L.drop (i + 1) ∧ c'.m ≤ 63 ∧ c'.fz = false ∧ (∀ y, c'.F y → c.F y ∨ w1.heap.size < y) ∧ Keeps c.F w1 w' ∧ (c'.m = 0 → Lone w' o B d c')) (fun w1' hb1' hs1' => ?_) ?_).mono ?_
      · have hR1' := hR1.below hb1'
        refine (remOk d w1' o B c key last hR1'.rep hR1'.fz hR1'.hB hR1'.ho hR1'.sorted hR1'.ok (by omega) hR1'.m63 hR1'.pos ht).mono ?_
        rintro e w' ⟨c', it, P, Q, rfl, t1, t2, t3, t4, t5, t6, t7, t8, t9, t10, t11⟩
        have hPi := rem_at h.root.sorted t3 t5 hE
        have hit : it = x := by
          have : c.L[P.length]? = some it := by rw [t3]; simp
          rw [hPi, hx] at this
          exact (Option.some.inj this).symm
        subst hit
        have e1 : c.L.take i = P := by rw [t3, ← hPi, List.take_left]
        have e2 : c.L.drop (i + 1) = Q := by
          have h1 : (P ++ [it]).length = i + 1 := by simp [hPi]
          rw [t3, show P ++ it :: Q = (P ++ [it]) ++ Q by simp, ← h1, List.drop_left]
        have hm63 := h.root.m63
        refine ⟨rfl, ⟨c', t1, t2, by rw [t4, e1, e2], by omega, t8, fun y hy => ?_, (keeps_of_below hb1').trans t10, t11⟩, t10.block _ hs1' (fun e => by have := hlt _ e; omega)⟩
        rcases t9 y hy with h1 | h1
        · exact .inl h1
        · exact .inr (by omega)
      · rintro w' w'' ⟨c', t1, t2, t3, t4, t5, t6, t7, t8⟩ hk
        have hsz := t7.size
        have hS : ∀ y, c'.F y → ¬ y = w1.heap.size := fun y hy e => by
          rcases t6 y hy with h1 | h1
          · have := hlt y h1; omega
          · omega
        refine ⟨c', t1.keeps hk (by omega) (fun y hy => by omega) hS, t2, t3, t4, t5, t6, t7.andThen hk (fun y hy e => by omega), fun hm0 => ?_⟩
        have hL := t8 hm0
        cases d with
        | zero => exact trivial
        | succ d =>
          obtain ⟨iv2, cv2, k2, hN, hk2⟩ := hL
          exact ⟨iv2, cv2, k2, hN.keeps hk (by omega) (fun y hy => by omega) hS, hk2⟩
      · rintro e w2 ⟨rfl, c', t1, t2, t3, t4, t5, t6, t7, t8⟩
        have hs2 := t7.size
        obtain ⟨d', k, q1, q2, q3, q4, q5, q6, q7⟩ := next_root t1 t5 t4 t8
        rw [t2] at q1
        have ho2 : OwnerAt w2 o := (t7.block o (by omega) (fun e => (hoF o e).2 rfl)).trans ((hb1.block o hol).trans h.root.ho)
        refine ⟨rfl, k.b, q1, ⟨d', k, rfl, ⟨q2, by omega, ho2, q3, by rw [q4, t3]; exact h.root.sorted.sublist hsub, fun y hy => h.root.ok y (by rw [q4, t3] at hy; exact hsub.subset hy), q5, q6⟩, by rw [q4, t3], fun y hy => ?_, (keeps_of_below hb1).trans t7, by omega⟩, hs2, fun k' hk' => t7.block k' (by omega) (fun e => by have := hlt k' e; omega)⟩
        rcases t6 y (q7 y hy) with h1 | h1
        · exact .inl h1
        · exact .inr (by omega)
    · rintro nb w2 w3 ⟨d', k, q1, q2, q3, q4, q5, q6⟩ hb3 hs3
      have hs2 := q5.size
      have hM3 : Model w3 kv ev c.L := (h.m.keeps q5 (fun y hy => (h.sep y hy).1)).keeps (keeps_of_below (S := fun _ => False) hb3) (fun _ _ e => e)
      have hk3 := q2.below hb3
      have hsepF : ∀ y, k.F y → ¬ (kv.ownBlock = some y ∨ ev.ownBlock = some y) := fun y hy e => by
        rcases q4 y hy with h1 | h1
        · exact (h.sep y e).1 h1
        · have := hml y e; omega
      refine (modelDelete_any hM3 hlen i hil).mono ?_
      rintro e w4 ⟨kv', ev', rfl, r1, r2, r3⟩
      refine ⟨kv', ev', rfl, ⟨d', k, q1, ⟨hk3.keeps r2 (fun y hy => (h.sep y hy).2) hsepF, by rw [q3]; exact r1, fun y hy => ?_⟩, by rw [q3]; exact hsub.length_le, fun y hy => ?_, ((q5.mono (fun y _ hy => .inl hy)).andThen (keeps_of_below (S := fun _ => False) hb3) (fun y _ hy => hy.elim)).andThen r2 (fun y _ hy => .inr hy)⟩, r2.size, fun k' hk' => r2.block k' (by omega) (fun e => by have := hml k' e; omega)⟩
      · exact ⟨fun e => hsepF y e (r3 y hy), (h.sep y (r3 y hy)).2⟩
      · rcases hy with hy | hy
        · rcases q4 y hy with h1 | h1
          · exact .inl (.inl h1)
          · exact .inr (by omega)
        · exact .inl (.inr (r3 y hy))
    · rintro nb kv' ev' w4 w5 ⟨d', c', q1, q2, q3, q4, q5⟩ hb
      exact ⟨d', c', q1, q2.below hb, q3, q4, q5.andThen (keeps_of_below (S := fun _ => False) hb) (fun y _ hy => hy.elim)⟩
end Go.Proofs.Qxb6601392a.Bt
