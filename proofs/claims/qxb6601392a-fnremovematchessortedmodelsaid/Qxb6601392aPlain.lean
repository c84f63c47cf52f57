import Derived.Test.Qxb6601392aBase
namespace Go.Proofs.Qxb6601392a.Bt

/-! ### a node's items woven with its children's -/
def wpre (A : List (List It)) (I : List It) : List It := (A.zip I).flatMap fun p => p.1 ++ [p.2]
def wpost (I : List It) (B : List (List It)) : List It := (I.zip B).flatMap fun p => p.1 :: p.2
def weave (I : List It) : List (List It) → List It
  | [] => I
  | L :: B => L ++ wpost I B

theorem wpre_nil : wpre [] [] = [] := rfl
theorem wpre_cons (L : List It) (A : List (List It)) (i : It) (I : List It) : wpre (L :: A) (i :: I) = L ++ i :: wpre A I := by simp [wpre]
theorem wpost_nil (B : List (List It)) : wpost [] B = [] := by simp [wpost]
theorem wpost_cons (i : It) (I : List It) (L : List It) (B : List (List It)) : wpost (i :: I) (L :: B) = i :: L ++ wpost I B := by simp [wpost]
theorem wpost_append (I1 I2 : List It) (A B : List (List It)) (h : I1.length = A.length) : wpost (I1 ++ I2) (A ++ B) = wpost I1 A ++ wpost I2 B := by
  unfold wpost; rw [List.zip_append h, List.flatMap_append]
theorem wpre_append (A B : List (List It)) (I1 I2 : List It) (h : A.length = I1.length) : wpre (A ++ B) (I1 ++ I2) = wpre A I1 ++ wpre B I2 := by
  unfold wpre; rw [List.zip_append h, List.flatMap_append]

theorem weave_split : ∀ (A : List (List It)) (I1 I2 : List It) (L : List It) (B : List (List It)), A.length = I1.length → weave (I1 ++ I2) (A ++ L :: B) = wpre A I1 ++ (L ++ wpost I2 B)
  | [], [], I2, L, B, _ => rfl
  | [], _ :: _, _, _, _, h => by simp at h
  | _ :: _, [], _, _, _, h => by simp at h
  | L0 :: A, i :: I1, I2, L, B, h => by
    rw [wpre_cons]
    have ih := weave_split A I1 I2 L B (by simpa using h)
    cases A with
    | nil =>
      cases I1 with
      | nil => simp [weave, wpost_cons, wpre_nil]
      | cons => simp at h
    | cons L1 A =>
      simp only [List.cons_append, weave, wpost_cons] at ih ⊢
      simp only [List.append_assoc, List.cons_append]
      rw [ih]

theorem wpre_mem {A : List (List It)} {I : List It} {x : It} (hx : x ∈ wpre A I) : (∃ L ∈ A, x ∈ L) ∨ x ∈ I := by
  simp only [wpre, List.mem_flatMap, List.mem_append, List.mem_singleton] at hx
  obtain ⟨p, hp, hx⟩ := hx
  rcases hx with hx | rfl
  · exact .inl ⟨p.1, (List.of_mem_zip hp).1, hx⟩
  · exact .inr (List.of_mem_zip hp).2

/-! ### sorted lists of items -/
def Sorted (L : List It) : Prop := L.Pairwise fun a b => klt a.key b.key = true
theorem Sorted.get {L : List It} (h : Sorted L) {i j : Nat} {x y : It} (hx : L[i]? = some x) (hy : L[j]? = some y) (hij : i < j) : klt x.key y.key = true := by
  obtain ⟨h1, rfl⟩ := List.getElem?_eq_some_iff.1 hx
  obtain ⟨h2, rfl⟩ := List.getElem?_eq_some_iff.1 hy
  exact List.pairwise_iff_getElem.1 h i j h1 h2 hij
theorem Sorted.left {L M : List It} (h : Sorted (L ++ M)) : Sorted L := (List.pairwise_append.1 h).1
theorem Sorted.right {L M : List It} (h : Sorted (L ++ M)) : Sorted M := (List.pairwise_append.1 h).2.1
theorem Sorted.cross {L M : List It} (h : Sorted (L ++ M)) {x y : It} (hx : x ∈ L) (hy : y ∈ M) : klt x.key y.key = true := (List.pairwise_append.1 h).2.2 x hx y hy

/-- put x at its place: in the place of the item with its key, if there is one -/
def ins (x : It) : List It → List It
  | [] => [x]
  | y :: L => if klt y.key x.key = true then y :: ins x L else if y.key = x.key then x :: L else x :: y :: L

theorem ins_pre (x : It) (P L : List It) (h : ∀ y ∈ P, klt y.key x.key = true) : ins x (P ++ L) = P ++ ins x L := by
  induction P with
  | nil => rfl
  | cons y P ih =>
    rw [List.cons_append, ins, if_pos (h y (by simp)), ih (fun z hz => h z (by simp [hz])), List.cons_append]
theorem ins_post (x : It) (L Q : List It) (h : ∀ y ∈ Q, klt x.key y.key = true) : ins x (L ++ Q) = ins x L ++ Q := by
  induction L with
  | nil =>
    cases Q with
    | nil => rfl
    | cons y Q =>
      have h1 := h y (by simp)
      show ins x (y :: Q) = x :: y :: Q
      rw [ins, if_neg (by rw [klt_asymm h1]; simp), if_neg (fun e => klt_ne h1 e.symm)]
  | cons y L ih =>
    rw [List.cons_append, ins, ins]
    split
    · rw [ih, List.cons_append]
    · split <;> rfl
theorem ins_hit (x y : It) (P Q : List It) (h : ∀ z ∈ P, klt z.key x.key = true) (hy : y.key = x.key) : ins x (P ++ y :: Q) = P ++ x :: Q := by
  rw [ins_pre x P _ h, ins, if_neg (by rw [hy, klt_irrefl]; simp), if_pos hy]
theorem ins_new (x : It) (P Q : List It) (h : ∀ z ∈ P, klt z.key x.key = true) (hQ : ∀ z ∈ Q, klt x.key z.key = true) : ins x (P ++ Q) = P ++ x :: Q := by
  rw [ins_post x P Q hQ]
  have := ins_pre x P [] h
  rw [List.append_nil] at this
  rw [this, ins, List.append_assoc]; rfl
theorem ins_mem (x : It) (L : List It) {z : It} (hz : z ∈ ins x L) : z = x ∨ z ∈ L := by
  induction L with
  | nil => simp [ins] at hz; exact .inl hz
  | cons y L ih =>
    rw [ins] at hz
    split at hz
    · simp only [List.mem_cons] at hz ⊢
      rcases hz with h | h
      · exact .inr (.inl h)
      · rcases ih h with h | h
        · exact .inl h
        · exact .inr (.inr h)
    · split at hz <;> simp only [List.mem_cons] at hz ⊢
      · rcases hz with h | h
        · exact .inl h
        · exact .inr (.inr h)
      · exact hz
theorem ins_sorted (x : It) (L : List It) (h : Sorted L) : Sorted (ins x L) := by
  induction L with
  | nil => simp [ins, Sorted]
  | cons y L ih =>
    obtain ⟨h1, h2⟩ := List.pairwise_cons.1 h
    rw [ins]
    split
    · rename_i hlt
      refine List.pairwise_cons.2 ⟨fun z hz => ?_, ih h2⟩
      rcases ins_mem x L hz with rfl | hz
      · exact hlt
      · exact h1 z hz
    · rename_i hge
      have hge : klt y.key x.key = false := by simpa using hge
      split
      · rename_i he
        exact List.pairwise_cons.2 ⟨fun z hz => by rw [← he]; exact h1 z hz, h2⟩
      · rename_i hne
        have hlt := klt_total hge hne
        exact List.pairwise_cons.2 ⟨fun z hz => by
          rcases List.mem_cons.1 hz with rfl | hz
          · exact hlt
          · exact klt_trans hlt (h1 z hz), h⟩
theorem ins_len (x : It) (L : List It) : L.length ≤ (ins x L).length ∧ (ins x L).length ≤ L.length + 1 := by
  induction L with
  | nil => simp [ins]
  | cons y L ih =>
    rw [ins]
    split
    · simp only [List.length_cons]; omega
    · split <;> simp
/-- does L hold key k? -/
def hasKey (L : List It) (k : Key) : Bool := L.any fun y => decide (y.key = k)
theorem hasKey_iff (L : List It) (k : Key) : hasKey L k = true ↔ ∃ y ∈ L, y.key = k := by simp [hasKey]
theorem ins_len_has (x : It) (L : List It) (h : Sorted L) : (ins x L).length = if hasKey L x.key then L.length else L.length + 1 := by
  induction L with
  | nil => rfl
  | cons y L ih =>
    obtain ⟨h1, h2⟩ := List.pairwise_cons.1 h
    rw [ins]
    split
    · rename_i hlt
      rw [List.length_cons, ih h2]
      have : hasKey (y :: L) x.key = hasKey L x.key := by
        simp only [hasKey, List.any_cons, decide_eq_false (klt_ne hlt), Bool.false_or]
      rw [this]; split <;> simp
    · rename_i hge
      have hge : klt y.key x.key = false := by simpa using hge
      split
      · rename_i he
        rw [if_pos (by simp [hasKey, he])]; simp
      · rename_i hne
        have hlt := klt_total hge hne
        rw [if_neg]
        · simp
        · rw [hasKey_iff]
          rintro ⟨z, hz, e⟩
          rcases List.mem_cons.1 hz with rfl | hz
          · exact hne e
          · exact klt_ne (klt_trans hlt (h1 z hz)) e.symm
end Go.Proofs.Qxb6601392a.Bt
