import Derived.Test.Qxb6601392aEndB
import Derived.Test.Qxb6601392aPutH
namespace Go.Proofs.Qxb6601392a.Bt
open Go.RowKit

/-- the node built anew, where what comes in may have lain elsewhere -/
theorem node_build2 {w w' : World} {o B d : Nat} {c : Ch} {iv cv : Value} {I : List It} {pre olds post : List Ch} (h : NodeO w o B d c iv cv I (pre ++ olds ++ post)) (hB : B ≤ w.heap.size) (ho : o < w.heap.size)
    (N2 : Nat) (hN2 : w.heap.size ≤ N2) (mids : List Ch) (iv' cv' : Value) (I' L' : List It)
    (hk : Keeps (fun x => x = c.b ∨ iv.ownBlock = some x ∨ cv.ownBlock = some x ∨ ∃ k ∈ olds, k.F x) w w')
    (n' : NodeAt w' c.b o iv' cv' L'.length) (i' : OwnI w' iv' I') (c' : OwnC w' cv' ((pre ++ mids ++ post).map Ch.b)) (hl : (pre ++ mids ++ post).length = I'.length + 1) (hL : L' = weave I' ((pre ++ mids ++ post).map Ch.L))
    (hR : ∀ k ∈ mids, Rep w' o B d k) (hz : ∀ k ∈ mids, 31 ≤ k.m ∧ k.m ≤ 63)
    (ha : ∀ k ∈ mids, ∀ x, k.F x → (∃ k ∈ olds, k.F x) ∨ (¬ c.F x ∧ x < N2 ∧ B ≤ x ∧ x ≠ o)) (hb : mids.Pairwise (fun a b => ∀ x, a.F x → ¬ b.F x))
    (hi : ∀ x, iv'.ownBlock = some x → iv.ownBlock = some x ∨ N2 ≤ x) (hc : ∀ x, cv'.ownBlock = some x → (cv.ownBlock = some x ∨ N2 ≤ x)) (hic : ∀ x, cv'.ownBlock = some x → iv'.ownBlock ≠ some x) :
    ∃ c' : Ch, NodeO w' o B d c' iv' cv' I' (pre ++ mids ++ post) ∧ c'.b = c.b ∧ c'.L = L' ∧ c'.m = I'.length ∧ c'.fz = false ∧ (∀ x, c'.F x → c.F x ∨ (∃ k ∈ mids, k.F x) ∨ w.heap.size ≤ x) ∧ Keeps c.F w w' := by
  have hsub : ∀ x, (x = c.b ∨ iv.ownBlock = some x ∨ cv.ownBlock = some x ∨ ∃ k ∈ olds, k.F x) → c.F x := by
    rintro x (hx | hx | hx | ⟨k, hk, hx⟩)
    · exact (h.F x).2 (.inl hx)
    · exact (h.F x).2 (.inr (.inl hx))
    · exact (h.F x).2 (.inr (.inr (.inl hx)))
    · exact (h.F x).2 (.inr (.inr (.inr ⟨k, by simp [hk], hx⟩)))
  have hkF : ∀ k ∈ pre ++ olds ++ post, ∀ x, k.F x → c.F x := fun k hk x hx => (h.F x).2 (.inr (.inr (.inr ⟨k, hk, hx⟩)))
  have hlt : ∀ x, c.F x → x < w.heap.size := h.rep.lt
  have hbl : c.b < w.heap.size := h.n.lt
  have hil := h.is.blk
  have hcl := h.cs.blk
  obtain ⟨pw12, pw3, pwx⟩ := List.pairwise_append.1 h.kk
  obtain ⟨pw1, pw2, pwy⟩ := List.pairwise_append.1 pw12
  -- the children that stay
  have hstay : ∀ k, (k ∈ pre ∨ k ∈ post) → k ∈ pre ++ olds ++ post := by
    rintro k (hk | hk) <;> simp [hk]
  have hdis : ∀ k, (k ∈ pre ∨ k ∈ post) → ∀ k' ∈ olds, ∀ x, k.F x → ¬ k'.F x := by
    rintro k (hk | hk) k' hk' x hx hx'
    · exact pwy k hk k' hk' x hx hx'
    · exact pwx k' (by simp [hk']) k hk x hx' hx
  have hRs : ∀ k, (k ∈ pre ∨ k ∈ post) → Rep w' o B d k := fun k hk' => (h.R k (hstay k hk')).keeps hk hB (fun x hx => (h.FB x (hsub x hx)).1) (by
    rintro x hx (hy | hy | hy | ⟨k', hk'', hy⟩)
    · exact (h.kd k (hstay k hk')).1 (hy ▸ hx)
    · exact (h.kd k (hstay k hk')).2.1 x hy hx
    · exact (h.kd k (hstay k hk')).2.2 x hy hx
    · exact hdis k hk' k' hk'' x hx hy)
  have hmem : ∀ k ∈ pre ++ mids ++ post, (k ∈ pre ∨ k ∈ post) ∨ k ∈ mids := by
    intro k hk; simp at hk; rcases hk with hk | hk | hk
    · exact .inl (.inl hk)
    · exact .inr hk
    · exact .inl (.inr hk)
  have hFF : ∀ x, (x = c.b ∨ iv'.ownBlock = some x ∨ cv'.ownBlock = some x ∨ ∃ k ∈ pre ++ mids ++ post, k.F x) → c.F x ∨ (∃ k ∈ mids, k.F x) ∨ w.heap.size ≤ x := by
    rintro x (hx | hx | hx | ⟨k, hk', hx⟩)
    · exact .inl (hsub x (.inl hx))
    · rcases hi x hx with hx | hx
      · exact .inl (hsub x (.inr (.inl hx)))
      · exact .inr (.inr (by omega))
    · rcases hc x hx with hx | hx
      · exact .inl (hsub x (.inr (.inr (.inl hx))))
      · exact .inr (.inr (by omega))
    · rcases hmem k hk' with hk' | hk'
      · exact .inl (hkF k (hstay k hk') x hx)
      · exact .inr (.inl ⟨k, hk', hx⟩)
  refine ⟨⟨c.b, I'.length, L', fun x => x = c.b ∨ iv'.ownBlock = some x ∨ cv'.ownBlock = some x ∨ ∃ k ∈ pre ++ mids ++ post, k.F x, false⟩, ⟨rfl, n', i', c', hl, rfl, hL, fun k hk' => ?_, fun k hk' => ?_, fun x => Iff.rfl, fun x hx => ?_, fun e => ?_, fun e => ?_, fun x hx hx' => hic x hx' hx, fun k hk' => ⟨fun hx => ?_, fun x hx hx' => ?_, fun x hx hx' => ?_⟩, ?_⟩, rfl, rfl, rfl, rfl, hFF, hk.mono (fun x _ hx => hsub x hx)⟩
  · rcases hmem k hk' with hk' | hk'
    · exact hRs k hk'
    · exact hR k hk'
  · rcases hmem k hk' with hk' | hk'
    · exact h.z k (hstay k hk')
    · exact hz k hk'
  · rcases hFF x hx with h1 | ⟨k, hk', h1⟩ | h1
    · exact h.FB x h1
    · rcases ha k hk' x h1 with ⟨k', hk'', hx'⟩ | h2
      · exact h.FB x (hkF k' (by simp [hk'']) x hx')
      · exact h2.2.2
    · omega
  · rcases hi _ e with h1 | h1
    · exact h.ib h1
    · exact absurd (Nat.lt_of_lt_of_le hbl (Nat.le_trans hN2 h1)) (Nat.lt_irrefl _)
  · rcases hc _ e with h1 | h1
    · exact h.cb h1
    · exact absurd (Nat.lt_of_lt_of_le hbl (Nat.le_trans hN2 h1)) (Nat.lt_irrefl _)
  · have hx : k.F c.b := hx
    rcases hmem k hk' with hk' | hk'
    · exact (h.kd k (hstay k hk')).1 hx
    · rcases ha k hk' _ hx with ⟨k', hk'', hx'⟩ | h1
      · exact (h.kd k' (by simp [hk''])).1 hx'
      · exact h1.1 (hsub _ (.inl rfl))
  · rcases hmem k hk' with hk' | hk'
    · rcases hi x hx with h1 | h1
      · exact (h.kd k (hstay k hk')).2.1 x h1 hx'
      · have := hlt x (hkF k (hstay k hk') x hx'); omega
    · rcases ha k hk' x hx' with ⟨k', hk'', hx'⟩ | h2
      · rcases hi x hx with h1 | h1
        · exact (h.kd k' (by simp [hk''])).2.1 x h1 hx'
        · have := hlt x (hkF k' (by simp [hk'']) x hx'); omega
      · rcases hi x hx with h1 | h1
        · exact h2.1 (hsub x (.inr (.inl h1)))
        · omega
  · rcases hmem k hk' with hk' | hk'
    · rcases hc x hx with h1 | h1
      · exact (h.kd k (hstay k hk')).2.2 x h1 hx'
      · have := hlt x (hkF k (hstay k hk') x hx'); omega
    · rcases ha k hk' x hx' with ⟨k', hk'', hx'⟩ | h2
      · rcases hc x hx with h1 | h1
        · exact (h.kd k' (by simp [hk''])).2.2 x h1 hx'
        · have := hlt x (hkF k' (by simp [hk'']) x hx'); omega
      · rcases hc x hx with h1 | h1
        · exact h2.1 (hsub x (.inr (.inr (.inl h1))))
        · omega
  · have hmd : ∀ k, (k ∈ pre ∨ k ∈ post) → ∀ k' ∈ mids, ∀ x, k.F x → ¬ k'.F x := by
      intro k hk' k' hk'' x hx hx'
      rcases ha k' hk'' x hx' with ⟨k2, hk2, hx2⟩ | h1
      · exact hdis k hk' k2 hk2 x hx hx2
      · exact h1.1 (hkF k (hstay k hk') x hx)
    refine List.pairwise_append.2 ⟨List.pairwise_append.2 ⟨pw1, hb, fun a ha' b hb' x hx => hmd a (.inl ha') b hb' x hx⟩, pw3, fun a ha' b hb' x hx hx' => ?_⟩
    rcases List.mem_append.1 ha' with ha' | ha'
    · exact pwx a (by simp [ha']) b hb' x hx hx'
    · exact hmd b (.inr hb') a ha' x hx' hx

theorem NodeO.way {w : World} {o B d : Nat} {c : Ch} {iv cv : Value} {I : List It} {ks : List Ch} (h : NodeO w o B d c iv cv I ks) : Way w w c.b o iv cv iv cv c.L.length I (ks.map Ch.b) :=
  ⟨h.n, h.is, h.cs, Keeps.refl _ _, fun _ hk => ⟨.inl hk, fun e => h.ib (e ▸ hk)⟩, fun _ hk => ⟨.inl hk, fun e => h.cb (e ▸ hk)⟩, fun k hk hk' => h.ic k hk' hk⟩

/-- an owned leaf -/
structure LeafO (w : World) (o B : Nat) (c : Ch) (iv cv : Value) : Prop where
  fz : c.fz = false
  way : Way w w c.b o iv cv iv cv c.L.length c.L []
  m : c.m = c.L.length
  F : ∀ x, c.F x ↔ (x = c.b ∨ iv.ownBlock = some x ∨ cv.ownBlock = some x)
  FB : ∀ x, c.F x → B ≤ x ∧ x ≠ o
theorem Rep.leafO {w : World} {o B : Nat} {c : Ch} (h : Rep w o B 0 c) (hf : c.fz = false) : ∃ iv cv, LeafO w o B c iv cv := by
  obtain ⟨ow, iv, cv, hN, hI, hC, hm, hF⟩ := h
  rcases hF with ⟨e, _⟩ | ⟨_, rfl, f3, f4, f5, f6, f7, _, _⟩
  · rw [hf] at e; cases e
  · exact ⟨iv, cv, hf, ⟨hN, hI, hC, Keeps.refl _ _, fun k hk => ⟨.inl hk, fun e => f5 (e ▸ hk)⟩, fun k hk => ⟨.inl hk, fun e => f6 (e ▸ hk)⟩, fun k hk hk' => f7 k hk' hk⟩, hm, fun x => by rw [f3 x]; simp, f4⟩
/-- a leaf behind its way -/
theorem LeafO.build {w w' : World} {o B : Nat} {c : Ch} {iv cv iv' cv' : Value} {L' : List It} (h : LeafO w o B c iv cv) (hB : B ≤ w.heap.size) (ho : o < w.heap.size) (W : Way w w' c.b o iv cv iv' cv' L'.length L' []) :
    ∃ c' : Ch, Rep w' o B 0 c' ∧ c'.b = c.b ∧ c'.L = L' ∧ c'.m = L'.length ∧ c'.fz = false ∧ (∀ x, c'.F x → c.F x ∨ w.heap.size ≤ x) ∧ Keeps c.F w w' := by
  have hF : ∀ x, (x = c.b ∨ iv'.ownBlock = some x ∨ cv'.ownBlock = some x) → c.F x ∨ w.heap.size ≤ x := by
    rintro x (hx | hx | hx)
    · exact .inl ((h.F x).2 (.inl hx))
    · rcases (W.ib x hx).1 with e | e
      · exact .inl ((h.F x).2 (.inr (.inl e)))
      · exact .inr e
    · rcases (W.cb x hx).1 with e | e
      · exact .inl ((h.F x).2 (.inr (.inr e)))
      · exact .inr e
  refine ⟨⟨c.b, L'.length, L', fun x => x = c.b ∨ iv'.ownBlock = some x ∨ cv'.ownBlock = some x, false⟩, ⟨o, iv', cv', W.n, W.i, W.c, rfl, .inr ⟨rfl, rfl, fun x => by simp, fun x hx => ?_, fun e => (W.ib _ e).2 rfl, fun e => (W.cb _ e).2 rfl, fun x hx hx' => W.ic x hx' hx, fun k hk => (by cases hk), List.Pairwise.nil⟩⟩, rfl, rfl, rfl, rfl, hF, W.k.mono (fun x _ hx => (h.F x).2 ?_)⟩
  · rcases hF x hx with h1 | h1
    · exact h.FB x h1
    · omega
  · rcases hx with hx | hx | hx
    · exact .inr (.inl hx)
    · exact .inr (.inr hx)
    · exact .inl hx

/-- the child that goes along with an item at an end: none beside a leaf's -/
def Kid (w : World) (o B : Nat) : Nat → Value → List It → (Nat → Prop) → Prop
  | 0, v, K, F => v = .pointer none ∧ K = [] ∧ ∀ x, ¬ F x
  | d + 1, v, K, F => ∃ k : Ch, v = .pointer (some ⟨k.b, 0, none⟩) ∧ Rep w o B d k ∧ K = k.L ∧ (∀ x, F x ↔ k.F x) ∧ 31 ≤ k.m ∧ k.m ≤ 63

theorem weave_last (I : List It) (A : List (List It)) (it : It) (K : List It) (h : A.length = I.length + 1) : weave (I ++ [it]) (A ++ [K]) = weave I A ++ it :: K := by
  have := weave_cut I [] it A [K] h rfl
  simpa [weave, wpost] using this
theorem weave_first (I : List It) (A : List (List It)) (it : It) (K : List It) (h : A.length = I.length + 1) : weave (it :: I) (K :: A) = K ++ it :: weave I A := by
  have := weave_cut [] I it [K] A rfl h
  simpa [weave, wpost] using this
theorem snoc {α : Type} {l : List α} (h : l ≠ []) : ∃ l' a, l = l' ++ [a] := ⟨l.dropLast, l.getLast h, (List.dropLast_concat_getLast h).symm⟩
theorem ncons {α : Type} {l : List α} (h : l ≠ []) : ∃ a l', l = a :: l' := by
  cases l with
  | nil => exact absurd rfl h
  | cons a l => exact ⟨a, l, rfl⟩
end Go.Proofs.Qxb6601392a.Bt
