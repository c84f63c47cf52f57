import Derived.Test.Qxb6601392aRep
namespace Go.Proofs.Qxb6601392a.Bt
open Go.RowKit

/-- a node that o owns, over its children -/
structure NodeO (w : World) (o B d : Nat) (c : Ch) (iv cv : Value) (I : List It) (ks : List Ch) : Prop where
  fz : c.fz = false
  n : NodeAt w c.b o iv cv c.L.length
  is : OwnI w iv I
  cs : OwnC w cv (ks.map Ch.b)
  len : ks.length = I.length + 1
  m : c.m = I.length
  L : c.L = weave I (ks.map Ch.L)
  R : ∀ k ∈ ks, Rep w o B d k
  z : ∀ k ∈ ks, 31 ≤ k.m ∧ k.m ≤ 63
  F : ∀ x, c.F x ↔ (x = c.b ∨ iv.ownBlock = some x ∨ cv.ownBlock = some x ∨ ∃ k ∈ ks, k.F x)
  FB : ∀ x, c.F x → B ≤ x ∧ x ≠ o
  ib : iv.ownBlock ≠ some c.b
  cb : cv.ownBlock ≠ some c.b
  ic : ∀ x, iv.ownBlock = some x → cv.ownBlock ≠ some x
  kd : ∀ k ∈ ks, ¬ k.F c.b ∧ (∀ x, iv.ownBlock = some x → ¬ k.F x) ∧ (∀ x, cv.ownBlock = some x → ¬ k.F x)
  kk : ks.Pairwise (fun a b => ∀ x, a.F x → ¬ b.F x)

theorem NodeO.rep {w : World} {o B d : Nat} {c : Ch} {iv cv : Value} {I : List It} {ks : List Ch} (h : NodeO w o B d c iv cv I ks) : Rep w o B (d + 1) c :=
  ⟨o, iv, cv, I, ks, h.n, h.is, h.cs, h.len, h.m, h.L, h.R, h.z, .inr ⟨h.fz, rfl, h.F, h.FB, h.ib, h.cb, h.ic, h.kd, h.kk⟩⟩
theorem Rep.nodeO {w : World} {o B d : Nat} {c : Ch} (h : Rep w o B (d + 1) c) (hf : c.fz = false) : ∃ iv cv I ks, NodeO w o B d c iv cv I ks := by
  obtain ⟨ow, iv, cv, I, ks, hN, hI, hC, hl, hm, hL, hR, hz, hF⟩ := h
  rcases hF with ⟨e, _⟩ | ⟨_, rfl, f3, f4, f5, f6, f7, f8, f9⟩
  · rw [hf] at e; cases e
  · exact ⟨iv, cv, I, ks, hf, hN, hI, hC, hl, hm, hL, hR, hz, f3, f4, f5, f6, f7, f8, f9⟩
/-- an owned node owns its own block -/
theorem Rep.bF {w : World} {o B d : Nat} {c : Ch} (h : Rep w o B d c) (hf : c.fz = false) : c.F c.b := by
  cases d with
  | zero =>
    obtain ⟨ow, iv, cv, _, _, _, _, hF⟩ := h
    rcases hF with ⟨e, _⟩ | ⟨_, _, h3, _⟩
    · rw [hf] at e; cases e
    · exact (h3 _).2 (.inl rfl)
  | succ d =>
    obtain ⟨iv, cv, I, ks, H⟩ := h.nodeO hf
    exact (H.F _).2 (.inl rfl)
theorem Rep.FB {w : World} {o B d : Nat} {c : Ch} (h : Rep w o B d c) : ∀ x, c.F x → B ≤ x ∧ x ≠ o := by
  intro x hx
  cases d with
  | zero =>
    obtain ⟨ow, iv, cv, _, _, _, _, hF⟩ := h
    rcases hF with ⟨_, _, _, _, _, _, _, _, h9⟩ | ⟨_, _, _, h4, _⟩
    · exact absurd hx (h9 x)
    · exact h4 x hx
  | succ d =>
    obtain ⟨ow, iv, cv, I, ks, _, _, _, _, _, _, _, _, hF⟩ := h
    rcases hF with ⟨_, _, _, _, _, _, _, _, h9⟩ | ⟨_, _, _, h4, _⟩
    · exact absurd hx (h9 x)
    · exact h4 x hx

/-- THE NODE BUILT ANEW: some of its children (olds) give way to others (mids) -/
theorem node_build {w w' : World} {o B d : Nat} {c : Ch} {iv cv : Value} {I : List It} {pre olds post : List Ch} (h : NodeO w o B d c iv cv I (pre ++ olds ++ post)) (hB : B ≤ w.heap.size) (ho : o < w.heap.size)
    (N2 : Nat) (hN2 : w.heap.size ≤ N2) (mids : List Ch) (iv' cv' : Value) (I' L' : List It)
    (hk : Keeps (fun x => x = c.b ∨ iv.ownBlock = some x ∨ cv.ownBlock = some x ∨ ∃ k ∈ olds, k.F x) w w')
    (n' : NodeAt w' c.b o iv' cv' L'.length) (i' : OwnI w' iv' I') (c' : OwnC w' cv' ((pre ++ mids ++ post).map Ch.b)) (hl : (pre ++ mids ++ post).length = I'.length + 1) (hL : L' = weave I' ((pre ++ mids ++ post).map Ch.L))
    (hR : ∀ k ∈ mids, Rep w' o B d k) (hz : ∀ k ∈ mids, 31 ≤ k.m ∧ k.m ≤ 63)
    (ha : ∀ k ∈ mids, ∀ x, k.F x → (∃ k ∈ olds, k.F x) ∨ (w.heap.size ≤ x ∧ x < N2)) (hb : mids.Pairwise (fun a b => ∀ x, a.F x → ¬ b.F x))
    (hi : ∀ x, iv'.ownBlock = some x → iv.ownBlock = some x ∨ N2 ≤ x) (hc : ∀ x, cv'.ownBlock = some x → (cv.ownBlock = some x ∨ N2 ≤ x)) (hic : ∀ x, cv'.ownBlock = some x → iv'.ownBlock ≠ some x) :
    ∃ c' : Ch, NodeO w' o B d c' iv' cv' I' (pre ++ mids ++ post) ∧ c'.b = c.b ∧ c'.L = L' ∧ c'.m = I'.length ∧ c'.fz = false ∧ (∀ x, c'.F x → c.F x ∨ w.heap.size ≤ x) ∧ Keeps c.F w w' := by
  have hsub : ∀ x, (x = c.b ∨ iv.ownBlock = some x ∨ cv.ownBlock = some x ∨ ∃ k ∈ olds, k.F x) → c.F x := by
    rintro x (hx | hx | hx | ⟨k, hk, hx⟩)
    · exact (h.F x).2 (.inl hx)
    · exact (h.F x).2 (.inr (.inl hx))
    · exact (h.F x).2 (.inr (.inr (.inl hx)))
    · exact (h.F x).2 (.inr (.inr (.inr ⟨k, by simp [hk], hx⟩)))
  have hkF : ∀ k ∈ pre ++ olds ++ post, ∀ x, k.F x → c.F x := fun k hk x hx => (h.F x).2 (.inr (.inr (.inr ⟨k, hk, hx⟩)))
  have hlt : ∀ x, c.F x → x < w.heap.size := h.rep.lt
  have hbl : c.b < w.heap.size := h.n.lt
  have hil := h.is.blk
  have hcl := h.cs.blk
  obtain ⟨pw12, pw3, pwx⟩ := List.pairwise_append.1 h.kk
  obtain ⟨pw1, pw2, pwy⟩ := List.pairwise_append.1 pw12
  -- the children that stay
  have hstay : ∀ k, (k ∈ pre ∨ k ∈ post) → k ∈ pre ++ olds ++ post := by
    rintro k (hk | hk) <;> simp [hk]
  have hdis : ∀ k, (k ∈ pre ∨ k ∈ post) → ∀ k' ∈ olds, ∀ x, k.F x → ¬ k'.F x := by
    rintro k (hk | hk) k' hk' x hx hx'
    · exact pwy k hk k' hk' x hx hx'
    · exact pwx k' (by simp [hk']) k hk x hx' hx
  have hRs : ∀ k, (k ∈ pre ∨ k ∈ post) → Rep w' o B d k := fun k hk' => (h.R k (hstay k hk')).keeps hk hB (fun x hx => (h.FB x (hsub x hx)).1) (by
    rintro x hx (hy | hy | hy | ⟨k', hk'', hy⟩)
    · exact (h.kd k (hstay k hk')).1 (hy ▸ hx)
    · exact (h.kd k (hstay k hk')).2.1 x hy hx
    · exact (h.kd k (hstay k hk')).2.2 x hy hx
    · exact hdis k hk' k' hk'' x hx hy)
  have hmem : ∀ k ∈ pre ++ mids ++ post, (k ∈ pre ∨ k ∈ post) ∨ k ∈ mids := by
    intro k hk; simp at hk; rcases hk with hk | hk | hk
    · exact .inl (.inl hk)
    · exact .inr hk
    · exact .inl (.inr hk)
  have hmF : ∀ k ∈ mids, ∀ x, k.F x → c.F x ∨ w.heap.size ≤ x := fun k hk x hx => by
    rcases ha k hk x hx with ⟨k', hk', hx'⟩ | h1
    · exact .inl (hsub x (.inr (.inr (.inr ⟨k', hk', hx'⟩))))
    · exact .inr h1.1
  have hFF : ∀ x, (x = c.b ∨ iv'.ownBlock = some x ∨ cv'.ownBlock = some x ∨ ∃ k ∈ pre ++ mids ++ post, k.F x) → c.F x ∨ w.heap.size ≤ x := by
    rintro x (hx | hx | hx | ⟨k, hk', hx⟩)
    · exact .inl (hsub x (.inl hx))
    · rcases hi x hx with hx | hx
      · exact .inl (hsub x (.inr (.inl hx)))
      · exact .inr (by omega)
    · rcases hc x hx with hx | hx
      · exact .inl (hsub x (.inr (.inr (.inl hx))))
      · exact .inr (by omega)
    · rcases hmem k hk' with hk' | hk'
      · exact .inl (hkF k (hstay k hk') x hx)
      · exact hmF k hk' x hx
  refine ⟨⟨c.b, I'.length, L', fun x => x = c.b ∨ iv'.ownBlock = some x ∨ cv'.ownBlock = some x ∨ ∃ k ∈ pre ++ mids ++ post, k.F x, false⟩, ⟨rfl, n', i', c', hl, rfl, hL, fun k hk' => ?_, fun k hk' => ?_, fun x => Iff.rfl, fun x hx => ?_, fun e => ?_, fun e => ?_, fun x hx hx' => hic x hx' hx, fun k hk' => ⟨fun hx => ?_, fun x hx hx' => ?_, fun x hx hx' => ?_⟩, ?_⟩, rfl, rfl, rfl, rfl, hFF, hk.mono (fun x _ hx => hsub x hx)⟩
  · rcases hmem k hk' with hk' | hk'
    · exact hRs k hk'
    · exact hR k hk'
  · rcases hmem k hk' with hk' | hk'
    · exact h.z k (hstay k hk')
    · exact hz k hk'
  · rcases hFF x hx with h1 | h1
    · exact h.FB x h1
    · omega
  · rcases hi _ e with h1 | h1
    · exact h.ib h1
    · exact absurd (Nat.lt_of_lt_of_le hbl (Nat.le_trans hN2 h1)) (Nat.lt_irrefl _)
  · rcases hc _ e with h1 | h1
    · exact h.cb h1
    · exact absurd (Nat.lt_of_lt_of_le hbl (Nat.le_trans hN2 h1)) (Nat.lt_irrefl _)
  · have hx : k.F c.b := hx
    rcases hmem k hk' with hk' | hk'
    · exact (h.kd k (hstay k hk')).1 hx
    · rcases ha k hk' _ hx with ⟨k', hk'', hx'⟩ | h1
      · exact (h.kd k' (by simp [hk''])).1 hx'
      · omega
  · rcases hmem k hk' with hk' | hk'
    · rcases hi x hx with h1 | h1
      · exact (h.kd k (hstay k hk')).2.1 x h1 hx'
      · have := hlt x (hkF k (hstay k hk') x hx'); omega
    · rcases ha k hk' x hx' with ⟨k', hk'', hx'⟩ | h2
      · rcases hi x hx with h1 | h1
        · exact (h.kd k' (by simp [hk''])).2.1 x h1 hx'
        · have := hlt x (hkF k' (by simp [hk'']) x hx'); omega
      · rcases hi x hx with h1 | h1
        · have := hil x h1; omega
        · omega
  · rcases hmem k hk' with hk' | hk'
    · rcases hc x hx with h1 | h1
      · exact (h.kd k (hstay k hk')).2.2 x h1 hx'
      · have := hlt x (hkF k (hstay k hk') x hx'); omega
    · rcases ha k hk' x hx' with ⟨k', hk'', hx'⟩ | h2
      · rcases hc x hx with h1 | h1
        · exact (h.kd k' (by simp [hk''])).2.2 x h1 hx'
        · have := hlt x (hkF k' (by simp [hk'']) x hx'); omega
      · rcases hc x hx with h1 | h1
        · have := hcl x h1; omega
        · omega
  · have hmd : ∀ k, (k ∈ pre ∨ k ∈ post) → ∀ k' ∈ mids, ∀ x, k.F x → ¬ k'.F x := by
      intro k hk' k' hk'' x hx hx'
      rcases ha k' hk'' x hx' with ⟨k2, hk2, hx2⟩ | h1
      · exact hdis k hk' k2 hk2 x hx hx2
      · have := hlt x (hkF k (hstay k hk') x hx); omega
    refine List.pairwise_append.2 ⟨List.pairwise_append.2 ⟨pw1, hb, fun a ha' b hb' x hx => hmd a (.inl ha') b hb' x hx⟩, pw3, fun a ha' b hb' x hx hx' => ?_⟩
    rcases List.mem_append.1 ha' with ha' | ha'
    · exact pwx a (by simp [ha']) b hb' x hx hx'
    · exact hmd b (.inr hb') a ha' x hx' hx
end Go.Proofs.Qxb6601392a.Bt
