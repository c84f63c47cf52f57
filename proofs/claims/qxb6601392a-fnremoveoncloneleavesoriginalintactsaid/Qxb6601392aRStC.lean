import Derived.Test.Qxb6601392aLawB
import Derived.Test.Qxb6601392aRStB
namespace Go.Proofs.Qxb6601392a.Bt
open Go.RowKit

/-! ### a removal from a tree whose model lies anywhere -/
def RStepPost2 (w : World) (o B : Nat) (c : Ch) (kv ev : Value) (nb : Nat) (kv' ev' : Value) (w' : World) : Prop :=
  ∃ d' c', c'.b = nb ∧ Root w' o B d' c' ∧ Model w' kv' ev' c'.L ∧ c'.L.length ≤ c.L.length ∧ (∀ y, c'.F y → c.F y ∨ w.heap.size ≤ y) ∧ (∀ y, (kv'.ownBlock = some y ∨ ev'.ownBlock = some y) → (kv.ownBlock = some y ∨ ev.ownBlock = some y) ∨ w.heap.size ≤ y) ∧
    ∃ w2, Keeps c.F w w2 ∧ Model w2 kv ev c.L ∧ Keeps (fun y => kv.ownBlock = some y ∨ ev.ownBlock = some y) w2 w'

theorem remStep2_any {w : World} {o B d : Nat} {c : Ch} {kv ev : Value} (hr : Root w o B d c) (hm : Model w kv ev c.L) (hlen : c.L.length ≤ 100000) (key : ByteArray) (last : Bool) :
    Calls Try.prog 23 #[.pointer (some ⟨c.b, 0, none⟩), .agg #[.string key, .bool last], .pointer (some ⟨o, 0, none⟩), kv, ev] w fun e w3 => ∃ nb kv' ev', e = .returned (.tuple #[.pointer (some ⟨nb, 0, none⟩), kv', ev', .bool true]) ∧ RStepPost2 w o B c kv ev nb kv' ev' w3 := by
  have hB := hr.hB
  have hol : o < w.heap.size := (Array.getElem?_eq_some_iff.1 hr.ho).1
  have hlt : ∀ y, c.F y → y < w.heap.size := hr.rep.lt d c
  have hml : ∀ y, (kv.ownBlock = some y ∨ ev.ownBlock = some y) → y < w.heap.size := fun y hy => hy.elim (hm.k.blk y) (hm.e.blk y)
  have hoF : ∀ y, c.F y → B ≤ y ∧ y ≠ o := hr.rep.FB
  by_cases hno : (if last then c.L = [] else ∃ i, Pos c.L key.data.toList i false)
  · refine (remStep_none hm hr.sorted hlen key last hno).mono ?_
    rintro e w' ⟨rfl, hb⟩
    exact ⟨c.b, kv, ev, rfl, d, c, rfl, hr.below hb, hm.keeps (keeps_of_below (S := fun _ => False) hb) (fun _ _ e => e), Nat.le_refl _, fun y hy => .inl hy, fun y hy => .inl hy, w, Keeps.refl _ _, hm, keeps_of_below hb⟩
  · obtain ⟨i, hE, hil, ht⟩ : ∃ i, (if last then i + 1 = c.L.length else Pos c.L key.data.toList i true) ∧ i < c.L.length ∧ (if last then c.L ≠ [] else hasKey c.L key.data.toList = true) := by
      cases last with
      | true =>
        have h1 : c.L ≠ [] := by simpa using hno
        have h2 := List.length_pos_iff.2 h1
        exact ⟨c.L.length - 1, by simp; omega, by omega, by simpa using h1⟩
      | false =>
        obtain ⟨i, f, hp⟩ := pos_exists c.L key.data.toList hr.sorted
        cases f with
        | false =>
          have h1 : ∀ x, ¬ Pos c.L key.data.toList x false := by simpa using hno
          exact absurd hp (h1 i)
        | true =>
          obtain ⟨x, hx, hxk⟩ := hp.found.1 rfl
          exact ⟨i, by simpa using hp, (List.getElem?_eq_some_iff.1 hx).1, by simpa using (hasKey_iff _ _).2 ⟨x, List.mem_of_getElem? hx, hxk⟩⟩
    obtain ⟨x, hx⟩ : ∃ x, c.L[i]? = some x := ⟨_, List.getElem?_eq_getElem hil⟩
    have hsub : (c.L.take i ++ c.L.drop (i + 1)).Sublist c.L := by
      have h1 : (c.L.take i ++ c.L.drop (i + 1)).Sublist (c.L.take i ++ c.L.drop i) := List.Sublist.append (List.Sublist.refl _) (by
        have := List.drop_sublist 1 (c.L.drop i)
        rwa [List.drop_drop] at this)
      rwa [List.take_append_drop] at h1
    refine remStep_raw hm hr.sorted hlen key last i hE x hx
      (fun nb w2 => ∃ d' k, k.b = nb ∧ Root w2 o B d' k ∧ k.L = c.L.take i ++ c.L.drop (i + 1) ∧ (∀ y, k.F y → c.F y ∨ w.heap.size + 2 ≤ y) ∧ Keeps c.F w w2 ∧ w.heap.size + 2 ≤ w2.heap.size) (fun w1 hb1 hsz1 => ?_)
      (fun nb kv' ev' w3 => RStepPost2 w o B c kv ev nb kv' ev' w3) ?_ ?_
    · have hR1 := hr.below hb1
      refine (wrap_remove _ _ _ _ x w1 (fun w' => ∃ c', Rep w' o B d c' ∧ c'.b = c.b ∧ c'.L = c.L.take i ++ c.L.drop (i + 1) ∧ c'.m ≤ 63 ∧ c'.fz = false ∧ (∀ y, c'.F y → c.F y ∨ w1.heap.size < y) ∧ Keeps c.F w1 w' ∧ (c'.m = 0 → Lone w' o B d c')) (fun w1' hb1' hs1' => ?_) ?_).mono ?_
      · have hR1' := hR1.below hb1'
        refine (remOk d w1' o B c key last hR1'.rep hR1'.fz hR1'.hB hR1'.ho hR1'.sorted hR1'.ok (by omega) hR1'.m63 hR1'.pos ht).mono ?_
        rintro e w' ⟨c', it, P, Q, rfl, t1, t2, t3, t4, t5, t6, t7, t8, t9, t10, t11⟩
        have hPi := rem_at hr.sorted t3 t5 hE
        have hit : it = x := by
          have : c.L[P.length]? = some it := by rw [t3]; simp
          rw [hPi, hx] at this
          exact (Option.some.inj this).symm
        subst hit
        have e1 : c.L.take i = P := by rw [t3, ← hPi, List.take_left]
        have e2 : c.L.drop (i + 1) = Q := by
          have h1 : (P ++ [it]).length = i + 1 := by simp [hPi]
          rw [t3, show P ++ it :: Q = (P ++ [it]) ++ Q by simp, ← h1, List.drop_left]
        have hm63 := hr.m63
        refine ⟨rfl, ⟨c', t1, t2, by rw [t4, e1, e2], by omega, t8, fun y hy => ?_, (keeps_of_below hb1').trans t10, t11⟩, t10.block _ hs1' (fun e => by have := hlt _ e; omega)⟩
        rcases t9 y hy with h1 | h1
        · exact .inl h1
        · exact .inr (by omega)
      · rintro w' w'' ⟨c', t1, t2, t3, t4, t5, t6, t7, t8⟩ hk
        have hsz := t7.size
        have hS : ∀ y, c'.F y → ¬ y = w1.heap.size := fun y hy e => by
          rcases t6 y hy with h1 | h1
          · have := hlt y h1; omega
          · omega
        refine ⟨c', t1.keeps hk (by omega) (fun y hy => by omega) hS, t2, t3, t4, t5, t6, t7.andThen hk (fun y hy e => by omega), fun hm0 => ?_⟩
        have hL := t8 hm0
        cases d with
        | zero => exact trivial
        | succ d =>
          obtain ⟨iv2, cv2, k2, hN, hk2⟩ := hL
          exact ⟨iv2, cv2, k2, hN.keeps hk (by omega) (fun y hy => by omega) hS, hk2⟩
      · rintro e w2 ⟨rfl, c', t1, t2, t3, t4, t5, t6, t7, t8⟩
        have hs2 := t7.size
        obtain ⟨d', k, q1, q2, q3, q4, q5, q6, q7⟩ := next_root t1 t5 t4 t8
        rw [t2] at q1
        have ho2 : OwnerAt w2 o := (t7.block o (by omega) (fun e => (hoF o e).2 rfl)).trans ((hb1.block o hol).trans hr.ho)
        refine ⟨rfl, k.b, q1, ⟨d', k, rfl, ⟨q2, by omega, ho2, q3, by rw [q4, t3]; exact hr.sorted.sublist hsub, fun y hy => hr.ok y (by rw [q4, t3] at hy; exact hsub.subset hy), q5, q6⟩, by rw [q4, t3], fun y hy => ?_, (keeps_of_below hb1).trans t7, by omega⟩, hs2, fun k' hk' => t7.block k' (by omega) (fun e => by have := hlt k' e; omega)⟩
        rcases t6 y (q7 y hy) with h1 | h1
        · exact .inl h1
        · exact .inr (by omega)
    · rintro nb w2 w3 ⟨d', k, q1, q2, q3, q4, q5, q6⟩ hb3 hs3
      have hs2 := q5.size
      have hM3 : Model w3 kv ev c.L := (hm.keeps q5 (fun y hy => hm.notF hr.rep hy)).keeps (keeps_of_below (S := fun _ => False) hb3) (fun _ _ e => e)
      have hk3 := q2.below hb3
      refine (modelDelete_any hM3 hlen i hil).mono ?_
      rintro e w4 ⟨kv', ev', rfl, r1, r2, r3⟩
      refine ⟨kv', ev', rfl, ⟨d', k, q1, hk3.model hM3 r2, by rw [q3]; exact r1, by rw [q3]; exact hsub.length_le, fun y hy => (q4 y hy).elim .inl (fun _ => .inr (by omega)), fun y hy => .inl (r3 y hy), w3, q5.andThen (keeps_of_below (S := fun _ => False) hb3) (fun y _ hy => hy.elim), hM3, r2⟩, r2.size, fun k' hk' => r2.block k' (by omega) (fun e => by have := hml k' e; omega)⟩
    · rintro nb kv' ev' w4 w5 ⟨d', c', q1, q2, q3, q4, q5, q6, w2, q7, q8, q9⟩ hb
      exact ⟨d', c', q1, q2.below hb, q3.keeps (keeps_of_below (S := fun _ => False) hb) (fun _ _ e => e), q4, q5, q6, w2, q7, q8, q9.andThen (keeps_of_below (S := fun _ => False) hb) (fun y _ hy => hy.elim)⟩

theorem LoopC.rstep {N0 : Nat} {w0 w w' : World} {o B n d1 d : Nat} {c1 c : Ch} {sk se kv ev : Value} (hold : Rep w o B d1 c1) (hsnap : Model w sk se c1.L) (hap : ∀ k, (sk.ownBlock = some k ∨ se.ownBlock = some k) → ¬ (kv.ownBlock = some k ∨ ev.ownBlock = some k))
    (hlive : ∀ k, (kv.ownBlock = some k ∨ ev.ownBlock = some k) → N0 ≤ k) (hbel : Below N0 w0 w) (hnB : N0 ≤ B) (hfz : c1.fz = true) (hr : Root w o B d c) (hn : c.L.length ≤ n) {nb : Nat} {kv' ev' : Value} (h : RStepPost2 w o B c kv ev nb kv' ev' w') :
    LoopC N0 w0 w' o B n d1 c1 sk se (.pointer (some ⟨nb, 0, none⟩)) kv' ev' := by
  obtain ⟨d', c', q1, q2, q3, q4, q5, q6, w2, k1, hM2, k2⟩ := h
  have hB := hr.hB
  have hs1 := k1.size
  have hsl : ∀ k, (sk.ownBlock = some k ∨ se.ownBlock = some k) → k < w.heap.size := fun k hk => hk.elim (hsnap.k.blk k) (hsnap.e.blk k)
  have hold2 : Rep w2 o B d1 c1 := hold.keeps k1 hB (fun y hy => (hr.rep.FB y hy).1) (fun y hy => absurd hy (hold.frozenF hfz y))
  have hsnap2 : Model w2 sk se c1.L := hsnap.keeps k1 (fun y hy => hsnap.notF hr.rep hy)
  refine ⟨⟨d', c', by rw [q1], q2, q3, Nat.le_trans q4 hn⟩, hold2.model (by omega) hM2 k2, hsnap2.keeps k2 hap, fun k hk hk' => ?_, fun k hk => ?_, ?_, hnB, hfz⟩
  · rcases q6 k hk' with h1 | h1
    · exact hap k hk h1
    · have := hsl k hk; omega
  · rcases q6 k hk with h1 | h1
    · exact hlive k h1
    · omega
  · exact hbel.trans ((k1.below (fun y hy => by have := (hr.rep.FB y hy).1; omega) (by omega)).trans (k2.below hlive (by omega)))
end Go.Proofs.Qxb6601392a.Bt
