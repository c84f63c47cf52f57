import Derived.Test.Qxb6601392aCollA
import Derived.Test.Qxb6601392aRootC
namespace Go.Proofs.Qxb6601392a.Bt
open Go.RowKit

theorem sum_mem_le {l : List Nat} {x : Nat} (h : x ∈ l) : x ≤ l.sum := by
  induction l with
  | nil => cases h
  | cons a l ih =>
    rw [List.sum_cons]
    rcases List.mem_cons.1 h with rfl | h
    · omega
    · have := ih h; omega
theorem Rep.big {w : World} {o B : Nat} : ∀ (d : Nat) (c : Ch), Rep w o B d c → 31 ≤ c.m → 31 * (d + 1) ≤ c.L.length := by
  intro d
  induction d with
  | zero =>
    intro c h hm
    obtain ⟨ow, iv, cv, _, _, _, hmm, _⟩ := h
    omega
  | succ d ih =>
    intro c h hm
    obtain ⟨ow, iv, cv, I, ks, _, _, _, hl, hmm, hL, hR, hz, _⟩ := h
    cases ks with
    | nil => simp at hl
    | cons k ks =>
      have h1 := ih k (hR k (by simp)) (hz k (by simp)).1
      rw [hL, weave_len I _ (by rw [List.length_map]; exact hl)]
      have : k.L.length ≤ (((k :: ks).map Ch.L).map List.length).sum := sum_mem_le (by simp)
      omega
theorem Rep.depth {w : World} {o B d : Nat} {c : Ch} (h : Rep w o B d c) : d ≤ c.L.length := by
  cases d with
  | zero => omega
  | succ d =>
    obtain ⟨ow, iv, cv, I, ks, _, _, _, hl, hmm, hL, hR, hz, _⟩ := h
    cases ks with
    | nil => simp at hl
    | cons k ks =>
      have h1 := (hR k (by simp)).big d k (hz k (by simp)).1
      rw [hL, weave_len I _ (by rw [List.length_map]; exact hl)]
      have : k.L.length ≤ (((k :: ks).map Ch.L).map List.length).sum := sum_mem_le (by simp)
      omega

/-- the bounds of child c -/
theorem kid_bounds {I : List It} {Ls : List (List It)} {K : List It} {c : Nat} (hK : Ls[c]? = some K) (hl : Ls.length = I.length + 1) (hs : Sorted (weave I Ls)) :
    (∀ i z, c = i + 1 → I[i]? = some z → ∀ y ∈ K, klt z.key y.key = true) ∧ (∀ z, I[c]? = some z → ∀ y ∈ K, klt y.key z.key = true) := by
  have hcl := (List.getElem?_eq_some_iff.1 hK).1
  have hLs : Ls = Ls.take c ++ K :: Ls.drop (c + 1) := by
    obtain ⟨h, rfl⟩ := List.getElem?_eq_some_iff.1 hK
    rw [← List.drop_eq_getElem_cons h, List.take_append_drop]
  have hw : weave I Ls = wpre (Ls.take c) (I.take c) ++ (K ++ wpost (I.drop c) (Ls.drop (c + 1))) := by
    have := weave_split (Ls.take c) (I.take c) (I.drop c) K (Ls.drop (c + 1)) (by rw [List.length_take, List.length_take]; omega)
    rw [List.take_append_drop, ← hLs] at this
    exact this
  rw [hw] at hs
  refine ⟨fun i z hc hz y hy => ?_, fun z hz y hy => ?_⟩
  · subst hc
    have hil := (List.getElem?_eq_some_iff.1 hz).1
    refine hs.cross (x := z) ?_ (List.mem_append_left _ hy)
    obtain ⟨M, hM⟩ : ∃ M, Ls[i]? = some M := ⟨_, List.getElem?_eq_getElem (by omega)⟩
    rw [List.take_add_one, List.take_add_one, hz, hM, Option.toList_some, Option.toList_some, wpre_append _ _ _ _ (by rw [List.length_take, List.length_take]; omega)]
    simp [wpre]
  · have hil := (List.getElem?_eq_some_iff.1 hz).1
    refine hs.right.cross hy ?_
    obtain ⟨M, hM⟩ : ∃ M, Ls[c + 1]? = some M := ⟨_, List.getElem?_eq_getElem (by omega)⟩
    have e1 : I.drop c = z :: I.drop (c + 1) := by
      obtain ⟨h, rfl⟩ := List.getElem?_eq_some_iff.1 hz
      exact List.drop_eq_getElem_cons h
    have e2 : Ls.drop (c + 1) = M :: Ls.drop (c + 2) := by
      obtain ⟨h, rfl⟩ := List.getElem?_eq_some_iff.1 hM
      exact List.drop_eq_getElem_cons h
    rw [e1, e2, wpost_cons]; simp

theorem check_any : ∀ (d : Nat) (w : World) (o B : Nat) (c : Ch) (isRoot : Bool) (lo hi : ByteArray) (hasLo hasHi : Bool), Rep w o B d c → B ≤ w.heap.size → Sorted c.L → (∀ y ∈ c.L, y.ok) → c.m ≤ 63 → (isRoot = true ∨ 31 ≤ c.m) → lo.size ≤ 1048576 → hi.size ≤ 1048576 →
    (hasLo = true → ∀ y ∈ c.L, klt lo.data.toList y.k.data.toList = true) → (hasHi = true → ∀ y ∈ c.L, klt y.k.data.toList hi.data.toList = true) → c.L.length ≤ 1000000000 →
    Calls Try.prog 35 #[.pointer (some ⟨c.b, 0, none⟩), .bool isRoot, .string lo, .bool hasLo, .string hi, .bool hasHi] w fun e w' => e = .returned (.tuple #[.bool true, .int .i64 ((d + 1 : Nat) : Int), .int .i64 (c.L.length : Int)]) ∧ Below w.heap.size w w' := by
  intro d
  induction d with
  | zero =>
    intro w o B c isRoot lo hi hasLo hasHi h hB hs hok hm hroot hlo hhi hL hH hlen
    obtain ⟨ow, iv, cv, hN, hI, hC, hmm, _⟩ := h
    exact check_raw hN hI hC (.inl rfl) (by omega) isRoot (by rw [← hmm]; exact hroot) hs hok lo hi hasLo hasHi hlo hhi hL hH [] rfl 0 (by omega) (by simp) hlen _ rfl (fun c kb q hkb => by simp at hkb)
  | succ d ih =>
    intro w o B c isRoot lo hi hasLo hasHi h hB hs hok hm hroot hlo hhi hL hH hlen
    have hdep := h.depth
    obtain ⟨ow, iv, cv, I, ks, hN, hI, hC, hl, hmm, hw, hR, hz, _⟩ := h
    have hlk : (ks.map Ch.L).length = I.length + 1 := by rw [List.length_map]; exact hl
    have hIm : ∀ y ∈ I, y ∈ c.L := fun y hy => by rw [hw]; exact weave_mem_I hlk hy
    have hsI : Sorted I := by
      have := weave_sub I _ hlk
      rw [← hw] at this
      exact hs.sublist this
    refine check_raw hN hI hC (.inr (by rw [List.length_map]; exact hl)) (by omega) isRoot (by rw [← hmm]; exact hroot) hsI (fun y hy => hok y (hIm y hy)) lo hi hasLo hasHi hlo hhi (fun e y hy => hL e y (hIm y hy)) (fun e y hy => hH e y (hIm y hy)) (ks.map fun k => k.L.length) (by simp) (d + 1) (by omega) (by
      rw [hw, weave_len I _ hlk, List.map_map]; rfl) hlen _ (by
      rw [if_neg (fun e => by have := congrArg List.length e; simp [hl] at this)]; simp) ?_
    intro cc kb q hkb hq w1 hb1
    obtain ⟨k, hk⟩ : ∃ k, ks[cc]? = some k := by
      rw [List.getElem?_map] at hkb
      cases hk : ks[cc]? with
      | none => rw [hk] at hkb; cases hkb
      | some k => exact ⟨k, rfl⟩
    rw [List.getElem?_map, hk] at hkb hq
    simp at hkb hq
    subst hkb hq
    have hkm := List.mem_of_getElem? hk
    have hsub : k.L.Sublist c.L := by
      rw [hw]; exact weave_kid_sub I _ hlk k.L (List.mem_map.2 ⟨k, hkm, rfl⟩)
    have hkb := kid_bounds (I := I) (Ls := ks.map Ch.L) (K := k.L) (c := cc) (by rw [List.getElem?_map, hk]; rfl) hlk (by rw [← hw]; exact hs)
    have hs1 := hb1.size
    have hloS : (loK lo I cc).size ≤ 1048576 := by
      cases cc with
      | zero => exact hlo
      | succ i =>
        show ((I[i]?.map It.k).getD lo).size ≤ _
        cases hi' : I[i]? with
        | none => exact hlo
        | some z => exact (hok z (hIm z (List.mem_of_getElem? hi'))).k
    have hhiS : (hiK hi I cc).size ≤ 1048576 := by
      unfold hiK
      cases hi' : I[cc]? with
      | none => exact hhi
      | some z => exact (hok z (hIm z (List.mem_of_getElem? hi'))).k
    have hcc := (List.getElem?_eq_some_iff.1 hk).1
    have := ih w1 o B k false (loK lo I cc) (hiK hi I cc) (hasLo || decide (0 < cc)) (hasHi || decide (cc < I.length)) ((hR k hkm).below hB hb1) (by omega) (hs.sublist hsub) (fun y hy => hok y (hsub.subset hy)) (hz k hkm).2 (.inr (hz k hkm).1) hloS hhiS (fun e y hy => by
        cases cc with
        | zero => exact hL (by simpa using e) y (hsub.subset hy)
        | succ i =>
          obtain ⟨z, hz'⟩ : ∃ z, I[i]? = some z := ⟨_, List.getElem?_eq_getElem (by omega)⟩
          show klt ((I[i]?.map It.k).getD lo).data.toList _ = true
          rw [hz']
          exact hkb.1 i z rfl hz' y hy) (fun e y hy => by
        unfold hiK
        cases hi' : I[cc]? with
        | none =>
          have : I.length ≤ cc := List.getElem?_eq_none_iff.1 hi'
          refine hH ?_ y (hsub.subset hy)
          rcases Bool.or_eq_true_iff.1 e with e | e
          · exact e
          · simp at e; omega
        | some z => exact hkb.2 z hi' y hy) (by have := hsub.length_le; omega)
    exact this

theorem gat_len (I : List It) (Ls : List (List It)) (hL : Ls = [] ∨ Ls.length = I.length + 1) (j : Nat) (hj : j ≤ I.length) : (gat I Ls j).length + (Ls[j]?.getD []).length ≤ (if Ls = [] then I else weave I Ls).length := by
  unfold gat
  rcases hL with rfl | hL
  · simp; omega
  · have hne : Ls ≠ [] := fun e => by rw [e] at hL; simp at hL
    obtain ⟨K, hK⟩ : ∃ K, Ls[j]? = some K := ⟨_, List.getElem?_eq_getElem (by omega)⟩
    rw [if_neg hne, if_neg hne, hK]
    have hLs : Ls = Ls.take j ++ K :: Ls.drop (j + 1) := by
      obtain ⟨h, rfl⟩ := List.getElem?_eq_some_iff.1 hK
      rw [← List.drop_eq_getElem_cons h, List.take_append_drop]
    have := weave_split (Ls.take j) (I.take j) (I.drop j) K (Ls.drop (j + 1)) (by rw [List.length_take, List.length_take]; omega)
    rw [List.take_append_drop, ← hLs] at this
    rw [this]
    simp

theorem collect_any {w0 : World} {o B : Nat} : ∀ (d : Nat) (c : Ch), Rep w0 o B d c → c.m ≤ 63 → ∀ (w : World) (kv ev : Value) (M : List It), Gath w0.heap.size w0 w kv ev M → M.length + c.L.length ≤ 400000 →
    Calls Try.prog 36 #[.pointer (some ⟨c.b, 0, none⟩), kv, ev] w fun e w2 => ∃ kv2 ev2, e = .returned (.tuple #[kv2, ev2]) ∧ Gath w0.heap.size w0 w2 kv2 ev2 (M ++ c.L) := by
  intro d
  induction d with
  | zero =>
    intro c h hm w kv ev M hG hlen
    obtain ⟨ow, iv, cv, hN, hI, hC, hmm, _⟩ := h
    refine collect_raw hN hI hC [] rfl (.inl rfl) rfl kv ev M hG (by omega) c.L (by simp) (fun j hj => ?_) (fun c kb K hkb => by simp at hkb)
    have := gat_len c.L [] (.inl rfl) j hj
    simp at this ⊢
    omega
  | succ d ih =>
    intro c h hm w kv ev M hG hlen
    obtain ⟨ow, iv, cv, I, ks, hN, hI, hC, hl, hmm, hw, hR, hz, _⟩ := h
    have hlk : (ks.map Ch.L).length = I.length + 1 := by rw [List.length_map]; exact hl
    have hne : ks.map Ch.L ≠ [] := fun e => by rw [e] at hlk; simp at hlk
    refine collect_raw hN hI hC (ks.map Ch.L) (by simp) (.inr hlk) rfl kv ev M hG (by omega) c.L (by rw [if_neg hne]; exact hw) (fun j hj => ?_) ?_
    · have := gat_len I (ks.map Ch.L) (.inr hlk) j hj
      rw [if_neg hne, ← hw] at this
      omega
    · intro cc kb K hkb hK w1 kv1 ev1 M1 hG1 hl1
      obtain ⟨k, hk⟩ : ∃ k, ks[cc]? = some k := by
        rw [List.getElem?_map] at hkb
        cases hk : ks[cc]? with
        | none => rw [hk] at hkb; cases hkb
        | some k => exact ⟨k, rfl⟩
      rw [List.getElem?_map, hk] at hkb hK
      simp at hkb hK
      subst hkb hK
      have hkm := List.mem_of_getElem? hk
      exact ih k (hR k hkm) (hz k hkm).2 w1 kv1 ev1 M1 hG1 hl1
end Go.Proofs.Qxb6601392a.Bt
