import Derived.Test.Qxb6601392aEndC
namespace Go.Proofs.Qxb6601392a.Bt
open Go.RowKit

/-- how the lists lie at an end -/
def AtEnd (last : Bool) (L L' : List It) (it : It) (K : List It) : Prop := if last then L = L' ++ it :: K else L = K ++ it :: L'

theorem takeEnd_any {w : World} {o B d : Nat} {c : Ch} (h : Rep w o B d c) (hB : B ≤ w.heap.size) (hol : o < w.heap.size) (hfz : c.fz = false) (hm : 1 ≤ c.m) (hm2 : c.m ≤ 63) (hok : ∀ y ∈ c.L, y.ok) (hlen : c.L.length ≤ 1000000000) (last : Bool) :
    Calls Try.prog 52 #[.pointer (some ⟨c.b, 0, none⟩), .bool last] w fun e w' => ∃ (it : It) (kval : Value) (K : List It) (Fk : Nat → Prop) (c' : Ch), e = .returned (.tuple #[it.val, kval]) ∧ Kid w' o B d kval K Fk ∧ Rep w' o B d c' ∧ c'.b = c.b ∧ AtEnd last c.L c'.L it K ∧ c'.m + 1 = c.m ∧ c'.fz = false ∧
      (∀ x, c'.F x → c.F x ∨ w.heap.size ≤ x) ∧ (∀ x, Fk x → c.F x) ∧ (∀ x, c'.F x → ¬ Fk x) ∧ Keeps c.F w w' := by
  cases d with
  | zero =>
    obtain ⟨iv, cv, H⟩ := h.leafO hfz
    have hne : c.L ≠ [] := fun e => by have := H.m; rw [e] at this; simp at this; omega
    have hlm := H.m
    cases last with
    | true =>
      obtain ⟨L', it, hL⟩ := snoc hne
      have hll : L'.length + 1 = c.L.length := by rw [hL]; simp
      refine (takeEnd_raw (q := c.L.length - 1) (q2 := c.L.length - 1) (bs' := []) (kval := .pointer none) H.way true L'.length (-1) (by simp; exact hll) it (by rw [hL]; simp) (hok it (by rw [hL]; simp)).v (by omega) (by simp) (by omega) (by omega) (.inl ⟨rfl, rfl, rfl, rfl⟩)).mono ?_
      rintro e w' ⟨iv', cv', rfl, W⟩
      have e1 : c.L.take L'.length ++ c.L.drop (L'.length + 1) = L' := by rw [hL]; simp
      have e2 : c.L.length - 1 = L'.length := by omega
      rw [e1, e2] at W
      obtain ⟨c', q1, q2, q3, q4, q5, q6, q7⟩ := H.build hB hol W
      exact ⟨it, _, [], fun _ => False, c', rfl, ⟨rfl, rfl, fun _ h => h⟩, q1, q2, by rw [q3]; simpa [AtEnd] using hL, by omega, q5, q6, fun _ h => h.elim, fun _ _ h => h, q7⟩
    | false =>
      obtain ⟨it, L', hL⟩ := ncons hne
      have hll : L'.length + 1 = c.L.length := by rw [hL]; simp
      refine (takeEnd_raw (q := c.L.length - 1) (q2 := c.L.length - 1) (bs' := []) (kval := .pointer none) H.way false 0 0 (by simp) it (by rw [hL]; simp) (hok it (by rw [hL]; simp)).v (by omega) (by simp) (by omega) (by omega) (.inl ⟨rfl, rfl, rfl, rfl⟩)).mono ?_
      rintro e w' ⟨iv', cv', rfl, W⟩
      have e1 : c.L.take 0 ++ c.L.drop (0 + 1) = L' := by rw [hL]; simp
      have e2 : c.L.length - 1 = L'.length := by omega
      rw [e1, e2] at W
      obtain ⟨c', q1, q2, q3, q4, q5, q6, q7⟩ := H.build hB hol W
      exact ⟨it, _, [], fun _ => False, c', rfl, ⟨rfl, rfl, fun _ h => h⟩, q1, q2, by rw [q3]; simpa [AtEnd] using hL, by omega, q5, q6, fun _ h => h.elim, fun _ _ h => h, q7⟩
  | succ d =>
    obtain ⟨iv, cv, I, ks, H⟩ := h.nodeO hfz
    have hmI := H.m
    have hlk := H.len
    have hLk : (ks.map Ch.L).length = I.length + 1 := by rw [List.length_map]; exact hlk
    have hneI : I ≠ [] := fun e => by rw [e] at hmI; simp at hmI; omega
    have hnek : ks ≠ [] := fun e => by rw [e] at hlk; simp at hlk
    have hIm : ∀ y ∈ I, y ∈ c.L := fun y hy => by rw [H.L]; exact weave_mem_I hLk hy
    cases last with
    | true =>
      obtain ⟨I', it, hI⟩ := snoc hneI
      obtain ⟨ks', k, hk⟩ := snoc hnek
      have hIl : I'.length + 1 = I.length := by rw [hI]; simp
      have hkl : ks'.length + 1 = ks.length := by rw [hk]; simp
      have hkm : k ∈ ks := by rw [hk]; simp
      have hkR := H.R k hkm
      have hkd := H.kd k hkm
      obtain ⟨_, _, _, _, kn, _, _⟩ := hkR.node
      have hkne : k.b ≠ c.b ∧ iv.ownBlock ≠ some k.b ∧ cv.ownBlock ≠ some k.b := by
        rcases hkR.bOr with e | e
        · refine ⟨fun e' => ?_, fun e' => ?_, fun e' => ?_⟩
          · have := (H.FB c.b ((H.F _).2 (.inl rfl))).1; omega
          · have := (H.FB k.b ((H.F _).2 (.inr (.inl e')))).1; omega
          · have := (H.FB k.b ((H.F _).2 (.inr (.inr (.inl e'))))).1; omega
        · exact ⟨fun e' => hkd.1 (e' ▸ e), fun e' => hkd.2.1 _ e' e, fun e' => hkd.2.2 _ e' e⟩
      have hLL : c.L = weave I' (ks'.map Ch.L) ++ it :: k.L := by
        rw [H.L, hI, hk, List.map_append]
        exact weave_last I' (ks'.map Ch.L) it k.L (by rw [List.length_map]; omega)
      have hlc := congrArg List.length hLL
      simp only [List.length_append, List.length_cons] at hlc
      refine (takeEnd_raw (q := c.L.length - 1) (q2 := c.L.length - 1 - k.L.length) (bs' := (ks.map Ch.b).take ks'.length ++ (ks.map Ch.b).drop (ks'.length + 1)) (kval := .pointer (some ⟨k.b, 0, none⟩)) H.way true I'.length ks'.length (by simp; omega) it (by rw [hI]; simp) (hok it (hIm it (by rw [hI]; simp))).v (by omega) (by rw [List.length_map]; omega) (by omega) (by omega)
        (.inr ⟨ks'.length, k.b, k.L.length, rfl, by rw [hk]; simp, rfl, rfl, kn.c3, hkne.1, hkne.2.1, hkne.2.2, by omega⟩)).mono ?_
      rintro e w' ⟨iv', cv', rfl, W⟩
      have e1 : I.take I'.length ++ I.drop (I'.length + 1) = I' := by rw [hI]; simp
      have e2 : (ks.map Ch.b).take ks'.length ++ (ks.map Ch.b).drop (ks'.length + 1) = ks'.map Ch.b := by rw [hk]; simp
      have e3 : c.L.length - 1 - k.L.length = (weave I' (ks'.map Ch.L)).length := by omega
      rw [e1, e2, e3] at W
      have H' : NodeO w o B d c iv cv I (ks' ++ [k] ++ []) := by rw [List.append_nil, ← hk]; exact H
      obtain ⟨c', q1, q2, q3, q4, q5, q6, q7⟩ := node_build H' hB hol w.heap.size (Nat.le_refl _) [] iv' cv' I' (weave I' (ks'.map Ch.L)) (W.k.mono (fun x _ hx => by
          rcases hx with hx | hx | hx
          · exact .inr (.inl hx)
          · exact .inr (.inr (.inl hx))
          · exact .inl hx)) W.n W.i (by simpa using W.c) (by simp; omega) (by simp) (fun k hk => (by cases hk)) (fun k hk => (by cases hk)) (fun k hk => (by cases hk)) List.Pairwise.nil (fun x hx => (W.ib x hx).1) (fun x hx => (W.cb x hx).1) W.ic
      have hkR' : Rep w' o B d k := hkR.keeps W.k hB (fun x hx => (H.FB x ((H.F x).2 (by
          rcases hx with hx | hx | hx
          · exact .inr (.inl hx)
          · exact .inr (.inr (.inl hx))
          · exact .inl hx))).1) (fun x hx hx' => by
          rcases hx' with hx' | hx' | hx'
          · exact hkd.2.1 x hx' hx
          · exact hkd.2.2 x hx' hx
          · exact hkd.1 (hx' ▸ hx))
      refine ⟨it, _, k.L, k.F, c', rfl, ⟨k, rfl, hkR', rfl, fun _ => Iff.rfl, H.z k hkm⟩, q1.rep, q2, by rw [q3]; simpa [AtEnd] using hLL, by omega, q5, q6, fun x hx => (H.F x).2 (.inr (.inr (.inr ⟨k, hkm, hx⟩))), fun x hx hx' => ?_, q7⟩
      rcases (q1.F x).1 hx with e | e | e | ⟨k2, hk2, e⟩
      · exact hkd.1 (by rw [← q2, ← e]; exact hx')
      · rcases (W.ib x e).1 with e' | e'
        · exact hkd.2.1 x e' hx'
        · have := hkR.lt d k x hx'; omega
      · rcases (W.cb x e).1 with e' | e'
        · exact hkd.2.2 x e' hx'
        · have := hkR.lt d k x hx'; omega
      · have hpw := H.kk
        rw [hk] at hpw
        simp at hk2
        exact (List.pairwise_append.1 hpw).2.2 k2 hk2 k (by simp) x e hx'
    | false =>
      obtain ⟨it, I', hI⟩ := ncons hneI
      obtain ⟨k, ks', hk⟩ := ncons hnek
      have hIl : I'.length + 1 = I.length := by rw [hI]; simp
      have hkl : ks'.length + 1 = ks.length := by rw [hk]; simp
      have hkm : k ∈ ks := by rw [hk]; simp
      have hkR := H.R k hkm
      have hkd := H.kd k hkm
      obtain ⟨_, _, _, _, kn, _, _⟩ := hkR.node
      have hkne : k.b ≠ c.b ∧ iv.ownBlock ≠ some k.b ∧ cv.ownBlock ≠ some k.b := by
        rcases hkR.bOr with e | e
        · refine ⟨fun e' => ?_, fun e' => ?_, fun e' => ?_⟩
          · have := (H.FB c.b ((H.F _).2 (.inl rfl))).1; omega
          · have := (H.FB k.b ((H.F _).2 (.inr (.inl e')))).1; omega
          · have := (H.FB k.b ((H.F _).2 (.inr (.inr (.inl e'))))).1; omega
        · exact ⟨fun e' => hkd.1 (e' ▸ e), fun e' => hkd.2.1 _ e' e, fun e' => hkd.2.2 _ e' e⟩
      have hLL : c.L = k.L ++ it :: weave I' (ks'.map Ch.L) := by
        rw [H.L, hI, hk, List.map_cons]
        exact weave_first I' (ks'.map Ch.L) it k.L (by rw [List.length_map]; omega)
      have hlc := congrArg List.length hLL
      simp only [List.length_append, List.length_cons] at hlc
      refine (takeEnd_raw (q := c.L.length - 1) (q2 := c.L.length - 1 - k.L.length) (bs' := (ks.map Ch.b).take 0 ++ (ks.map Ch.b).drop (0 + 1)) (kval := .pointer (some ⟨k.b, 0, none⟩)) H.way false 0 0 (by simp) it (by rw [hI]; simp) (hok it (hIm it (by rw [hI]; simp))).v (by omega) (by rw [List.length_map]; omega) (by omega) (by omega)
        (.inr ⟨0, k.b, k.L.length, rfl, by rw [hk]; simp, rfl, rfl, kn.c3, hkne.1, hkne.2.1, hkne.2.2, by omega⟩)).mono ?_
      rintro e w' ⟨iv', cv', rfl, W⟩
      have e1 : I.take 0 ++ I.drop (0 + 1) = I' := by rw [hI]; simp
      have e2 : (ks.map Ch.b).take 0 ++ (ks.map Ch.b).drop (0 + 1) = ks'.map Ch.b := by rw [hk]; simp
      have e3 : c.L.length - 1 - k.L.length = (weave I' (ks'.map Ch.L)).length := by omega
      rw [e1, e2, e3] at W
      have H' : NodeO w o B d c iv cv I ([] ++ [k] ++ ks') := by simpa [hk] using H
      obtain ⟨c', q1, q2, q3, q4, q5, q6, q7⟩ := node_build H' hB hol w.heap.size (Nat.le_refl _) [] iv' cv' I' (weave I' (ks'.map Ch.L)) (W.k.mono (fun x _ hx => by
          rcases hx with hx | hx | hx
          · exact .inr (.inl hx)
          · exact .inr (.inr (.inl hx))
          · exact .inl hx)) W.n W.i (by simpa using W.c) (by simp; omega) (by simp) (fun k hk => (by cases hk)) (fun k hk => (by cases hk)) (fun k hk => (by cases hk)) List.Pairwise.nil (fun x hx => (W.ib x hx).1) (fun x hx => (W.cb x hx).1) W.ic
      have hkR' : Rep w' o B d k := hkR.keeps W.k hB (fun x hx => (H.FB x ((H.F x).2 (by
          rcases hx with hx | hx | hx
          · exact .inr (.inl hx)
          · exact .inr (.inr (.inl hx))
          · exact .inl hx))).1) (fun x hx hx' => by
          rcases hx' with hx' | hx' | hx'
          · exact hkd.2.1 x hx' hx
          · exact hkd.2.2 x hx' hx
          · exact hkd.1 (hx' ▸ hx))
      refine ⟨it, _, k.L, k.F, c', rfl, ⟨k, rfl, hkR', rfl, fun _ => Iff.rfl, H.z k hkm⟩, q1.rep, q2, by rw [q3]; simpa [AtEnd] using hLL, by omega, q5, q6, fun x hx => (H.F x).2 (.inr (.inr (.inr ⟨k, hkm, hx⟩))), fun x hx hx' => ?_, q7⟩
      rcases (q1.F x).1 hx with e | e | e | ⟨k2, hk2, e⟩
      · exact hkd.1 (by rw [← q2, ← e]; exact hx')
      · rcases (W.ib x e).1 with e' | e'
        · exact hkd.2.1 x e' hx'
        · have := hkR.lt d k x hx'; omega
      · rcases (W.cb x e).1 with e' | e'
        · exact hkd.2.2 x e' hx'
        · have := hkR.lt d k x hx'; omega
      · have hpw := H.kk
        rw [hk] at hpw
        simp at hk2
        exact (List.pairwise_cons.1 hpw).1 k2 hk2 x hx' e

theorem putEnd_any {w : World} {o B d : Nat} {c : Ch} (h : Rep w o B d c) (hB : B ≤ w.heap.size) (hol : o < w.heap.size) (hfz : c.fz = false) (hm2 : c.m ≤ 62) (hlen : c.L.length ≤ 1000000000) (it : It) (hit : it.ok) (kval : Value) (K : List It) (Fk : Nat → Prop) (hkid : Kid w o B d kval K Fk) (hK : K.length ≤ 1000000000) (hdis : ∀ x, Fk x → ¬ c.F x) (last : Bool) :
    Calls Try.prog 53 #[.pointer (some ⟨c.b, 0, none⟩), .bool last, .agg #[.string it.k, .string it.v, .int .u64 it.r], kval] w fun e w' => ∃ c' : Ch, e = .returned (.tuple #[]) ∧ Rep w' o B d c' ∧ c'.b = c.b ∧ AtEnd last c'.L c.L it K ∧ c'.m = c.m + 1 ∧ c'.fz = false ∧
      (∀ x, c'.F x → c.F x ∨ Fk x ∨ w.heap.size ≤ x) ∧ Keeps c.F w w' := by
  cases d with
  | zero =>
    obtain ⟨rfl, rfl, hFk⟩ := hkid
    obtain ⟨iv, cv, H⟩ := h.leafO hfz
    have hlm := H.m
    cases last with
    | true =>
      refine (putEnd_raw (q2 := c.L.length + 1) (bs' := []) (kval := .pointer none) H.way true c.L.length 0 (by simp) it hit.v (by omega) (by simp) (by omega) (by omega) (.inl ⟨rfl, rfl, rfl⟩)).mono ?_
      rintro e w' ⟨iv', cv', rfl, W⟩
      have e1 : c.L.take c.L.length ++ it :: c.L.drop c.L.length = c.L ++ [it] := by simp
      have e2 : c.L.length + 1 = (c.L ++ [it]).length := by simp
      rw [e1, e2] at W
      obtain ⟨c', q1, q2, q3, q4, q5, q6, q7⟩ := H.build hB hol W
      exact ⟨c', rfl, q1, q2, by rw [q3]; simp [AtEnd], by rw [q4]; simp; omega, q5, fun x hx => (q6 x hx).elim .inl (fun e => .inr (.inr e)), q7⟩
    | false =>
      refine (putEnd_raw (q2 := c.L.length + 1) (bs' := []) (kval := .pointer none) H.way false 0 0 (by simp) it hit.v (by omega) (by simp) (by omega) (by omega) (.inl ⟨rfl, rfl, rfl⟩)).mono ?_
      rintro e w' ⟨iv', cv', rfl, W⟩
      have e1 : c.L.take 0 ++ it :: c.L.drop 0 = it :: c.L := by simp
      have e2 : c.L.length + 1 = (it :: c.L).length := by simp
      rw [e1, e2] at W
      obtain ⟨c', q1, q2, q3, q4, q5, q6, q7⟩ := H.build hB hol W
      exact ⟨c', rfl, q1, q2, by rw [q3]; simp [AtEnd], by rw [q4]; simp; omega, q5, fun x hx => (q6 x hx).elim .inl (fun e => .inr (.inr e)), q7⟩
  | succ d =>
    obtain ⟨k, rfl, hkR, rfl, hFk, hz1, hz2⟩ := hkid
    obtain ⟨iv, cv, I, ks, H⟩ := h.nodeO hfz
    have hmI := H.m
    have hlk := H.len
    have hLk : (ks.map Ch.L).length = I.length + 1 := by rw [List.length_map]; exact hlk
    have hdk : ∀ x, k.F x → ¬ c.F x := fun x hx => hdis x ((hFk x).2 hx)
    obtain ⟨_, _, _, _, kn, _, _⟩ := hkR.node
    have hkne : k.b ≠ c.b ∧ iv.ownBlock ≠ some k.b ∧ cv.ownBlock ≠ some k.b := by
      rcases hkR.bOr with e | e
      · refine ⟨fun e' => ?_, fun e' => ?_, fun e' => ?_⟩
        · have := (H.FB c.b ((H.F _).2 (.inl rfl))).1; omega
        · have := (H.FB k.b ((H.F _).2 (.inr (.inl e')))).1; omega
        · have := (H.FB k.b ((H.F _).2 (.inr (.inr (.inl e'))))).1; omega
      · exact ⟨fun e' => hdk _ e ((H.F _).2 (.inl e')), fun e' => hdk _ e ((H.F _).2 (.inr (.inl e'))), fun e' => hdk _ e ((H.F _).2 (.inr (.inr (.inl e'))))⟩
    have hkR' : ∀ w' iv' cv' p' I' bs', Way w w' c.b o iv cv iv' cv' p' I' bs' → Rep w' o B d k := fun w' iv' cv' p' I' bs' W => hkR.keeps W.k hB (fun x hx => (H.FB x ((H.F x).2 (by
        rcases hx with hx | hx | hx
        · exact .inr (.inl hx)
        · exact .inr (.inr (.inl hx))
        · exact .inl hx))).1) (fun x hx hx' => hdk x hx ((H.F x).2 (by
        rcases hx' with hx' | hx' | hx'
        · exact .inr (.inl hx')
        · exact .inr (.inr (.inl hx'))
        · exact .inl hx')))
    cases last with
    | true =>
      refine (putEnd_raw (q2 := c.L.length + 1 + k.L.length) (bs' := (ks.map Ch.b).take ks.length ++ k.b :: (ks.map Ch.b).drop ks.length) (kval := .pointer (some ⟨k.b, 0, none⟩)) H.way true I.length ks.length (by simp) it hit.v (by omega) (by rw [List.length_map]; omega) (by omega) (by omega)
        (.inr ⟨ks.length, k.b, k.L.length, rfl, by simp, rfl, rfl, kn.c3, hkne.1, hkne.2.1, hkne.2.2, rfl⟩)).mono ?_
      rintro e w' ⟨iv', cv', rfl, W⟩
      have e1 : I.take I.length ++ it :: I.drop I.length = I ++ [it] := by simp
      have e2 : (ks.map Ch.b).take ks.length ++ k.b :: (ks.map Ch.b).drop ks.length = (ks ++ [k]).map Ch.b := by
        rw [List.take_of_length_le (by simp), List.drop_eq_nil_of_le (by simp)]; simp
      have hw := weave_last I (ks.map Ch.L) it k.L hLk
      have e3 : c.L.length + 1 + k.L.length = (weave (I ++ [it]) ((ks ++ [k]).map Ch.L)).length := by
        rw [List.map_append, List.map_cons, List.map_nil, hw, ← H.L]; simp; omega
      rw [e1, e2, e3] at W
      have H' : NodeO w o B d c iv cv I (ks ++ [] ++ []) := by simpa using H
      obtain ⟨c', q1, q2, q3, q4, q5, q6, q7⟩ := node_build2 H' hB hol w.heap.size (Nat.le_refl _) [k] iv' cv' (I ++ [it]) (weave (I ++ [it]) ((ks ++ [k]).map Ch.L)) (W.k.mono (fun x _ hx => by
          rcases hx with hx | hx | hx
          · exact .inr (.inl hx)
          · exact .inr (.inr (.inl hx))
          · exact .inl hx)) W.n W.i (by simpa using W.c) (by simp; omega) (by simp) (fun k2 hk2 => by simp at hk2; subst hk2; exact hkR' _ _ _ _ _ _ W) (fun k2 hk2 => by simp at hk2; subst hk2; exact ⟨hz1, hz2⟩) (fun k2 hk2 x hx => by
          simp at hk2; subst hk2
          exact .inr ⟨hdk x hx, hkR.lt d _ x hx, hkR.FB x hx⟩) (List.pairwise_singleton _ _) (fun x hx => (W.ib x hx).1) (fun x hx => (W.cb x hx).1) W.ic
      refine ⟨c', rfl, q1.rep, q2, ?_, by rw [q4]; simp; omega, q5, fun x hx => ?_, q7⟩
      · rw [q3, List.map_append, List.map_cons, List.map_nil, hw, ← H.L]; simp [AtEnd]
      · rcases q6 x hx with e | ⟨k2, hk2, e⟩ | e
        · exact .inl e
        · simp at hk2; subst hk2
          exact .inr (.inl ((hFk x).2 e))
        · exact .inr (.inr e)
    | false =>
      refine (putEnd_raw (q2 := c.L.length + 1 + k.L.length) (bs' := (ks.map Ch.b).take 0 ++ k.b :: (ks.map Ch.b).drop 0) (kval := .pointer (some ⟨k.b, 0, none⟩)) H.way false 0 0 (by simp) it hit.v (by omega) (by rw [List.length_map]; omega) (by omega) (by omega)
        (.inr ⟨0, k.b, k.L.length, rfl, by simp, rfl, rfl, kn.c3, hkne.1, hkne.2.1, hkne.2.2, rfl⟩)).mono ?_
      rintro e w' ⟨iv', cv', rfl, W⟩
      have e1 : I.take 0 ++ it :: I.drop 0 = it :: I := by simp
      have e2 : (ks.map Ch.b).take 0 ++ k.b :: (ks.map Ch.b).drop 0 = (k :: ks).map Ch.b := by simp
      have hw := weave_first I (ks.map Ch.L) it k.L hLk
      have e3 : c.L.length + 1 + k.L.length = (weave (it :: I) ((k :: ks).map Ch.L)).length := by
        rw [List.map_cons, hw, ← H.L]; simp; omega
      rw [e1, e2, e3] at W
      have H' : NodeO w o B d c iv cv I ([] ++ [] ++ ks) := by simpa using H
      obtain ⟨c', q1, q2, q3, q4, q5, q6, q7⟩ := node_build2 H' hB hol w.heap.size (Nat.le_refl _) [k] iv' cv' (it :: I) (weave (it :: I) ((k :: ks).map Ch.L)) (W.k.mono (fun x _ hx => by
          rcases hx with hx | hx | hx
          · exact .inr (.inl hx)
          · exact .inr (.inr (.inl hx))
          · exact .inl hx)) W.n W.i (by simpa using W.c) (by simp; omega) (by simp) (fun k2 hk2 => by simp at hk2; subst hk2; exact hkR' _ _ _ _ _ _ W) (fun k2 hk2 => by simp at hk2; subst hk2; exact ⟨hz1, hz2⟩) (fun k2 hk2 x hx => by
          simp at hk2; subst hk2
          exact .inr ⟨hdk x hx, hkR.lt d _ x hx, hkR.FB x hx⟩) (List.pairwise_singleton _ _) (fun x hx => (W.ib x hx).1) (fun x hx => (W.cb x hx).1) W.ic
      refine ⟨c', rfl, q1.rep, q2, ?_, by rw [q4]; simp; omega, q5, fun x hx => ?_, q7⟩
      · rw [q3, List.map_cons, hw, ← H.L]; simp [AtEnd]
      · rcases q6 x hx with e | ⟨k2, hk2, e⟩ | e
        · exact .inl e
        · simp at hk2; subst hk2
          exact .inr (.inl ((hFk x).2 e))
        · exact .inr (.inr e)
end Go.Proofs.Qxb6601392a.Bt
