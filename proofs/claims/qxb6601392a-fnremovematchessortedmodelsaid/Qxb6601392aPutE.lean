import Derived.Test.Qxb6601392aPutD
namespace Go.Proofs.Qxb6601392a.Bt
open Go.RowKit

/-! ### the plain side of put -/
theorem wpost_sub : ∀ (I : List It) (B : List (List It)), B.length = I.length → I.Sublist (wpost I B)
  | [], [], _ => List.Sublist.slnil
  | [], _ :: _, h => by simp at h
  | _ :: _, [], h => by simp at h
  | i :: I, L :: B, h => by
    rw [wpost_cons]
    exact (List.Sublist.cons_cons i ((wpost_sub I B (by simpa using h)).trans (List.sublist_append_right L _)))
theorem weave_sub (I : List It) (B : List (List It)) (h : B.length = I.length + 1) : I.Sublist (weave I B) := by
  cases B with
  | nil => simp at h
  | cons L B => exact (wpost_sub I B (by simpa using h)).trans (List.sublist_append_right L _)
theorem weave_kid_sub (I : List It) : ∀ (B : List (List It)), B.length = I.length + 1 → ∀ L ∈ B, L.Sublist (weave I B) := by
  intro B h L hL
  obtain ⟨A, B', rfl⟩ := List.append_of_mem hL
  have hA : A.length ≤ I.length := by simp at h; omega
  have e : weave I (A ++ L :: B') = wpre A (I.take A.length) ++ (L ++ wpost (I.drop A.length) B') := by
    have := weave_split A (I.take A.length) (I.drop A.length) L B' (by rw [List.length_take]; omega)
    rwa [List.take_append_drop] at this
  rw [e]
  exact (List.sublist_append_left L _).trans (List.sublist_append_right _ _)

theorem wpre_last : ∀ (A : List (List It)) (I : List It), A.length = I.length → ∀ z ∈ wpre A I, ∃ P y, wpre A I = P ++ [y] ∧ I.getLast? = some y
  | [], [], _, z, hz => by simp [wpre] at hz
  | [], _ :: _, h, _, _ => by simp at h
  | _ :: _, [], h, _, _ => by simp at h
  | L :: A, i :: I, h, z, hz => by
    rw [wpre_cons]
    cases A with
    | nil =>
      cases I with
      | nil => exact ⟨L, i, by simp [wpre], by simp⟩
      | cons => simp at h
    | cons M A =>
      cases I with
      | nil => simp at h
      | cons j I =>
        obtain ⟨P, y, e1, e2⟩ := wpre_last (M :: A) (j :: I) (by simpa using h) j (by rw [wpre_cons]; simp)
        exact ⟨L ++ i :: P, y, by rw [e1]; simp, by rw [List.getLast?_cons_cons]; exact e2⟩

/-- where x comes to lie among the items of a node: below it -/
theorem put_place {I : List It} {A B : List (List It)} {L : List It} {x : It} {i : Nat} (hP : Pos I x.key i false) (hA : A.length = i) (hB : B.length + i = I.length) (hs : Sorted (weave I (A ++ L :: B))) :
    ins x (weave I (A ++ L :: B)) = weave I (A ++ ins x L :: B) ∧ hasKey (weave I (A ++ L :: B)) x.key = hasKey L x.key := by
  have e : ∀ M, weave I (A ++ M :: B) = wpre A (I.take i) ++ (M ++ wpost (I.drop i) B) := fun M => by
    have := weave_split A (I.take i) (I.drop i) M B (by rw [List.length_take]; omega)
    rwa [List.take_append_drop] at this
  rw [e, e]
  rw [e] at hs
  have hpre : ∀ z ∈ wpre A (I.take i), klt z.key x.key = true := by
    intro z hz
    obtain ⟨P, y, e1, e2⟩ := wpre_last A (I.take i) (by rw [List.length_take]; omega) z hz
    have hy : ∃ j, j < i ∧ I[j]? = some y := by
      rw [List.getLast?_eq_getElem?] at e2
      have h0 := (List.getElem?_eq_some_iff.1 e2).1
      have hl : (I.take i).length = i := by rw [List.length_take]; omega
      rw [List.getElem?_take_of_lt (by omega)] at e2
      exact ⟨_, by omega, e2⟩
    obtain ⟨j, hj, hyj⟩ := hy
    have hyx := hP.lt j y hyj hj
    rw [e1] at hz hs
    rcases List.mem_append.1 hz with hz | hz
    · exact klt_trans (hs.left.cross hz (by simp)) hyx
    · simp at hz; subst hz; exact hyx
  have hpost : ∀ z ∈ wpost (I.drop i) B, klt x.key z.key = true := by
    intro z hz
    cases hD : I.drop i with
    | nil => rw [hD, wpost_nil] at hz; cases hz
    | cons y D =>
      have hyi : I[i]? = some y := by
        have := congrArg List.head? hD
        rw [List.head?_drop] at this; simpa using this
      have hge := hP.ge i y hyi (Nat.le_refl _)
      have hne : y.key ≠ x.key := fun h => by
        have := hP.found.2 ⟨y, hyi, h⟩; cases this
      have hxy := klt_total hge hne
      cases B with
      | nil =>
        rw [hD] at hz; simp [wpost] at hz
      | cons M B =>
        have hs2 := hs.right.right
        rw [hD, wpost_cons] at hz hs2
        simp only [List.cons_append, List.mem_cons] at hz
        rcases hz with rfl | hz
        · exact hxy
        · exact klt_trans hxy ((List.pairwise_cons.1 hs2).1 z hz)
  refine ⟨?_, ?_⟩
  · rw [ins_pre x _ _ hpre, ins_post x L _ hpost]
  · unfold hasKey
    rw [List.any_append, List.any_append]
    have h1 : (wpre A (I.take i)).any (fun y => decide (y.key = x.key)) = false := by
      rw [List.any_eq_false]; intro y hy; simpa using klt_ne (hpre y hy)
    have h2 : (wpost (I.drop i) B).any (fun y => decide (y.key = x.key)) = false := by
      rw [List.any_eq_false]; intro y hy; simpa using fun h => klt_ne (hpost y hy) h.symm
    rw [h1, h2]; simp

/-- x lies among the node's own items -/
theorem put_hit {I : List It} {B : List (List It)} {x y : It} {i : Nat} (hy : I[i]? = some y) (hk : y.key = x.key) (hB : B.length = I.length + 1) (hs : Sorted (weave I B)) :
    ins x (weave I B) = weave (I.set i x) B ∧ hasKey (weave I B) x.key = true := by
  have hil := (List.getElem?_eq_some_iff.1 hy).1
  obtain ⟨L, hL⟩ : ∃ L, B[i]? = some L := ⟨_, List.getElem?_eq_getElem (by omega)⟩
  obtain ⟨M, hM⟩ : ∃ M, B[i + 1]? = some M := ⟨_, List.getElem?_eq_getElem (by omega)⟩
  have hBB : B = B.take i ++ L :: M :: B.drop (i + 2) := by
    have e1 := List.drop_eq_getElem?_toList_append (l := B) (i := i)
    have e2 := List.drop_eq_getElem?_toList_append (l := B) (i := i + 1)
    rw [hL] at e1; rw [hM] at e2
    conv => lhs; rw [← List.take_append_drop i B, e1, e2]
    rfl
  have hII : ∀ z : It, I.set i z = I.take i ++ z :: I.drop (i + 1) := fun z => by rw [List.set_eq_take_append_cons_drop, if_pos hil]
  have hI0 : I = I.take i ++ y :: I.drop (i + 1) := by
    have := hII y
    have hse : I.set i y = I := by
      obtain ⟨h, rfl⟩ := List.getElem?_eq_some_iff.1 hy
      exact List.set_getElem_self h
    rwa [hse] at this
  have key : ∀ z : It, weave (I.take i ++ z :: I.drop (i + 1)) (B.take i ++ L :: M :: B.drop (i + 2)) = (wpre (B.take i) (I.take i) ++ L) ++ z :: (M ++ wpost (I.drop (i + 1)) (B.drop (i + 2))) := fun z => by
    rw [weave_split _ _ _ _ _ (by rw [List.length_take, List.length_take]; omega), wpost_cons]; simp
  have e0 : weave I B = (wpre (B.take i) (I.take i) ++ L) ++ y :: (M ++ wpost (I.drop (i + 1)) (B.drop (i + 2))) := by
    have := key y
    rwa [← hI0, ← hBB] at this
  have e1 : weave (I.set i x) B = (wpre (B.take i) (I.take i) ++ L) ++ x :: (M ++ wpost (I.drop (i + 1)) (B.drop (i + 2))) := by
    have := key x
    rwa [← hII, ← hBB] at this
  rw [e0, e1]
  rw [e0] at hs
  refine ⟨ins_hit x y _ _ (fun z hz => ?_) hk, ?_⟩
  · rw [← hk]; exact hs.cross hz (by simp)
  · rw [hasKey_iff]; exact ⟨y, by simp, hk⟩
end Go.Proofs.Qxb6601392a.Bt
