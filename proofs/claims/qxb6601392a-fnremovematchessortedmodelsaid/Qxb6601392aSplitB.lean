import Derived.Test.Qxb6601392aSplit
namespace Go.Proofs.Qxb6601392a.Bt
open Go.RowKit

theorem wpost_len : ∀ (I : List It) (B : List (List It)), B.length = I.length → (wpost I B).length = I.length + (B.map List.length).sum
  | [], [], _ => rfl
  | [], _ :: _, h => by simp at h
  | _ :: _, [], h => by simp at h
  | i :: I, L :: B, h => by
    rw [wpost_cons, List.length_append, wpost_len I B (by simpa using h)]
    simp only [List.length_cons, List.map_cons, List.sum_cons]; omega
theorem weave_len (I : List It) (B : List (List It)) (h : B.length = I.length + 1) : (weave I B).length = I.length + (B.map List.length).sum := by
  cases B with
  | nil => simp at h
  | cons L B =>
    rw [weave, List.length_append, wpost_len I B (by simpa using h)]
    simp only [List.map_cons, List.sum_cons]; omega
theorem weave_cut (I1 I2 : List It) (mid : It) (A B : List (List It)) (hA : A.length = I1.length + 1) (hB : B.length = I2.length + 1) : weave (I1 ++ mid :: I2) (A ++ B) = weave I1 A ++ mid :: weave I2 B := by
  cases A with
  | nil => simp at hA
  | cons L A =>
    cases B with
    | nil => simp at hB
    | cons M B =>
      simp only [List.cons_append, weave]
      rw [wpost_append I1 (mid :: I2) A (M :: B) (by simp at hA; omega), wpost_cons]
      simp

/-- the pieces that the block says -/
def pcs (w : World) (b : Nat) : Nat := match w.cell? ⟨b, 3, none⟩ with
  | some (Value.int _ n) => n.toNat
  | _ => 0
theorem pcs_node {w : World} {b o p : Nat} {iv cv : Value} (h : NodeAt w b o iv cv p) : pcs w b = p := by
  unfold pcs; rw [h.c3]; simp
theorem Rep.bOr {w : World} {o B d : Nat} {c : Ch} (h : Rep w o B d c) : c.b < B ∨ c.F c.b := by
  cases d with
  | zero => obtain ⟨ow, iv, cv, hN, hI, hC, hm, hf⟩ := h; exact hf.blocks.1
  | succ d => obtain ⟨ow, iv, cv, I, ks, hN, hI, hC, hl, hm, hL, hR, hz, hf⟩ := h; exact hf.blocks.1

theorem weave_mem_I {I : List It} {A : List (List It)} {x : It} (h : A.length = I.length + 1) (hx : x ∈ I) : x ∈ weave I A := by
  cases A with
  | nil => simp at h
  | cons L A =>
    simp only [weave, List.mem_append]
    refine .inr ?_
    have h' : A.length = I.length := by simpa using h
    clear h
    induction I generalizing A with
    | nil => cases hx
    | cons i I ih =>
      cases A with
      | nil => simp at h'
      | cons M A =>
        rw [wpost_cons]
        rcases List.mem_cons.1 hx with rfl | hx
        · simp
        · simp only [List.cons_append, List.mem_cons, List.mem_append]
          exact .inr (.inr (ih hx A (by simpa using h')))

/-- THE SPLIT OF A FULL NODE -/
theorem split_any {w : World} {o B d : Nat} {c : Ch} (h : Rep w o B d c) (hB : B ≤ w.heap.size) (hol : o < w.heap.size) (hfz : c.fz = false) (hm : c.m = 63) (hok : ∀ x ∈ c.L, x.ok) (hlen : c.L.length ≤ 4611686018427387904) :
    Calls Try.prog 57 #[.pointer (some ⟨c.b, 0, none⟩), .pointer (some ⟨o, 0, none⟩)] w fun e w' => ∃ (mid : It) (c1 c2 : Ch), e = .returned (.tuple #[mid.val, .pointer (some ⟨c2.b, 0, none⟩)]) ∧ Rep w' o B d c1 ∧ Rep w' o B d c2 ∧ c1.b = c.b ∧ c.L = c1.L ++ mid :: c2.L ∧ c1.m = 31 ∧ c2.m = 31 ∧ c1.fz = false ∧ c2.fz = false ∧
      (∀ x, c1.F x → c.F x) ∧ (∀ x, c2.F x → c.F x ∨ w.heap.size ≤ x) ∧ (∀ x, c1.F x → ¬ c2.F x) ∧ Keeps c.F w w' := by
  cases d with
  | zero =>
    obtain ⟨ow, iv, cv, hN, hI, hC, hmm, hf⟩ := h
    rcases hf with ⟨e, _⟩ | ⟨_, rfl, f3, f4, f5, f6, f7, _, _⟩
    · rw [hfz] at e; cases e
    have h63 : c.L.length = 63 := by omega
    obtain ⟨mid, hmid⟩ : ∃ mid, c.L[31]? = some mid := ⟨_, List.getElem?_eq_getElem (by omega)⟩
    obtain ⟨g, cap, rfl, _, _, _, _, _, _⟩ := hI.at hmid
    obtain ⟨Ac, cc, rfl, _, _⟩ := hC.form
    rw [h63] at hN f3 f5 f7
    unfold OwnI at hI
    rw [h63] at hI
    have hgb : g ≠ c.b := fun e => f5 (by simp [Value.ownBlock, e])
    refine (split_raw w c.b ow 63 g cap c.L [] Ac cc hN hI h63 hC mid hmid hgb f6 (fun e => f7 g rfl e) (.inl rfl) (fun _ => 0) (fun c hc => by simp at hc) (fun c hc => by simp at hc) (fun x hx => (hok x hx).v) (by simp) (by omega)).mono ?_
    rintro e w' ⟨r, cv1, iv2, cv2, rfl, T⟩
    have hLL : c.L = c.L.take 31 ++ mid :: c.L.drop 32 := by
      obtain ⟨h31, rfl⟩ := List.getElem?_eq_some_iff.1 hmid
      rw [← List.drop_eq_getElem_cons h31, List.take_append_drop]
    have l1 : (c.L.take 31).length = 31 := by rw [List.length_take, h63]; rfl
    have l2 : (c.L.drop 32).length = 31 := by rw [List.length_drop, h63]
    have lo : ∀ x, (x = c.b ∨ cv1.ownBlock = some x ∨ (Value.slice (some ⟨g, 0, none⟩) 31 cap).ownBlock = some x) → c.F x := by
      rintro x (hx | hx | hx)
      · exact (f3 x).2 (.inl hx)
      · exact (f3 x).2 (.inr (.inr (.inl (T.cb.symm.trans hx))))
      · exact (f3 x).2 (.inr (.inl hx))
    have hlt : ∀ x, c.F x → x < w.heap.size := by
      intro x hx
      rcases (f3 x).1 hx with rfl | hx | hx | ⟨k, hk, _⟩
      · exact hN.lt
      · exact hI.blk x hx
      · exact hC.blk x hx
      · cases hk
    refine ⟨mid, ⟨c.b, 31, c.L.take 31, fun x => x = c.b ∨ (Value.slice (some ⟨g, 0, none⟩) 31 cap).ownBlock = some x ∨ cv1.ownBlock = some x, false⟩, ⟨r, 31, c.L.drop 32, fun x => x = r ∨ iv2.ownBlock = some x ∨ cv2.ownBlock = some x, false⟩, rfl,
      ⟨ow, _, cv1, ?_, T.i1, T.c1, l1.symm, .inr ⟨rfl, rfl, fun x => by simp, fun x hx => f4 x (lo x ?_), f5, ?_, ?_, fun k hk => (by cases hk), List.Pairwise.nil⟩⟩,
      ⟨ow, iv2, cv2, ?_, T.i2, T.c2, l2.symm, .inr ⟨rfl, rfl, fun x => by simp, fun x hx => ?_, fun e => (T.ni _ e).2 rfl, fun e => (T.nc _ e).2.1 rfl, fun x hx hx' => (T.nc x hx').2.2 hx, fun k hk => (by cases hk), List.Pairwise.nil⟩⟩,
      rfl, hLL, rfl, rfl, rfl, rfl, fun x hx => lo x ?_, fun x hx => .inr ?_, fun x hx hx' => ?_, T.keep.mono fun x _ hx => ?_⟩
    · show NodeAt w' c.b ow _ cv1 (c.L.take 31).length
      rw [l1]; exact T.n1
    · rcases hx with hx | hx | hx
      · exact .inl hx
      · exact .inr (.inr hx)
      · exact .inr (.inl hx)
    · rw [T.cb]; exact f6
    · rw [T.cb]; exact f7
    · show NodeAt w' r ow iv2 cv2 (c.L.drop 32).length
      rw [l2]; exact T.n2
    · rcases hx with rfl | hx | hx
      · have := T.rn; omega
      · have := T.ni x hx; omega
      · have := T.nc x hx; omega
    · rcases hx with hx | hx | hx
      · exact .inl hx
      · exact .inr (.inr hx)
      · exact .inr (.inl hx)
    · rcases hx with rfl | hx | hx
      · exact T.rn
      · exact (T.ni x hx).1
      · exact (T.nc x hx).1
    · have h1 : x < w.heap.size := hlt x (lo x (by
        rcases hx with hx | hx | hx
        · exact .inl hx
        · exact .inr (.inr hx)
        · exact .inr (.inl hx)))
      rcases hx' with rfl | hx | hx
      · have := T.rn; omega
      · have := T.ni x hx; omega
      · have := T.nc x hx; omega
    · rcases hx with hx | hx | hx
      · exact (f3 x).2 (.inl hx)
      · exact (f3 x).2 (.inr (.inl hx))
      · exact (f3 x).2 (.inr (.inr (.inl hx)))
  | succ d =>
    obtain ⟨ow, iv, cv, I, ks, hN, hI, hC, hl, hmm, hL, hR, hz, hf⟩ := h
    rcases hf with ⟨e, _⟩ | ⟨_, rfl, f3, f4, f5, f6, f7, f8, f9⟩
    · rw [hfz] at e; cases e
    have h63 : I.length = 63 := by omega
    obtain ⟨mid, hmid⟩ : ∃ mid, I[31]? = some mid := ⟨_, List.getElem?_eq_getElem (by omega)⟩
    obtain ⟨g, cap, rfl, _, _, _, _, _, _⟩ := hI.at hmid
    obtain ⟨Ac, cc, rfl, _, _⟩ := hC.form
    rw [h63] at hN f3 f5 f7 f8
    unfold OwnI at hI
    rw [h63] at hI
    have hgb : g ≠ c.b := fun e => f5 (by simp [Value.ownBlock, e])
    have hkl : ks.length = 64 := by omega
    have hcF : c.F c.b := (f3 _).2 (.inl rfl)
    have hgF : c.F g := (f3 _).2 (.inr (.inl rfl))
    have hap : ∀ k ∈ ks, k.b ≠ c.b ∧ k.b ≠ g ∧ (Value.slice Ac (ks.map Ch.b).length cc).ownBlock ≠ some k.b := by
      intro k hk
      have hb := (hR k hk).bOr
      have h8 := f8 k hk
      refine ⟨fun e => ?_, fun e => ?_, fun e => ?_⟩
      · rcases hb with hb | hb
        · have := (f4 _ hcF).1; omega
        · exact h8.1 (e ▸ hb)
      · rcases hb with hb | hb
        · have := (f4 _ hgF).1; omega
        · exact h8.2.1 _ rfl (e ▸ hb)
      · rcases hb with hb | hb
        · have := (f4 _ ((f3 k.b).2 (.inr (.inr (.inl e))))).1; omega
        · exact h8.2.2 _ e hb
    have hLl : c.L.length = 63 + (ks.map fun k => k.L.length).sum := by
      rw [hL, weave_len I _ (by rw [List.length_map]; exact hl), h63, List.map_map]; rfl
    have hsp : ∀ M : List Ch, (∀ k ∈ M, k ∈ ks) → ((M.map Ch.b).map (pcs w)).sum = (M.map fun k => k.L.length).sum := by
      intro M hM
      induction M with
      | nil => rfl
      | cons k M ih =>
        obtain ⟨_, _, _, _, hNk, _⟩ := (hR k (hM k (by simp))).node
        simp only [List.map_cons, List.sum_cons, pcs_node hNk, ih (fun x hx => hM x (by simp [hx]))]
    have hdm : ∀ k ∈ ks.drop 32, k ∈ ks := fun k hk => List.mem_of_mem_drop hk
    have htm : ∀ k ∈ ks.take 32, k ∈ ks := fun k hk => List.mem_of_mem_take hk
    have hS := hsp (ks.drop 32) hdm
    have hsum : (ks.map fun k => k.L.length).sum = ((ks.take 32).map fun k => k.L.length).sum + ((ks.drop 32).map fun k => k.L.length).sum := by
      rw [← List.sum_append, ← List.map_append, List.take_append_drop]
    have hbd : (ks.map Ch.b).drop 32 = (ks.drop 32).map Ch.b := by rw [List.map_drop]
    have hbt : (ks.map Ch.b).take 32 = (ks.take 32).map Ch.b := by rw [List.map_take]
    refine (split_raw w c.b ow c.L.length g cap I (ks.map Ch.b) Ac cc hN hI h63 hC mid hmid hgb f6 (fun e => f7 g rfl e) (.inr (by simpa using hkl)) (pcs w) ?_ ?_ ?_ ?_ hlen).mono ?_
    · intro b hb
      rw [hbd] at hb
      obtain ⟨k, hk, rfl⟩ := List.mem_map.1 hb
      obtain ⟨ow', iv', cv', _, hNk, _⟩ := (hR k (hdm k hk)).node
      exact ⟨ow', iv', cv', by rw [pcs_node hNk]; exact hNk⟩
    · intro b hb
      rw [hbd] at hb
      obtain ⟨k, hk, rfl⟩ := List.mem_map.1 hb
      exact hap k (hdm k hk)
    · intro x hx
      exact (hok x (by rw [hL]; exact weave_mem_I (by rw [List.length_map]; exact hl) hx)).v
    · rw [hbd, hS]; omega
    rintro e w' ⟨r, cv1, iv2, cv2, rfl, T⟩
    rw [hbd, hS, hbt] at T
    have hIL : I = I.take 31 ++ mid :: I.drop 32 := by
      obtain ⟨h31, rfl⟩ := List.getElem?_eq_some_iff.1 hmid
      rw [← List.drop_eq_getElem_cons h31, List.take_append_drop]
    have l1 : (I.take 31).length = 31 := by rw [List.length_take, h63]; rfl
    have l2 : (I.drop 32).length = 31 := by rw [List.length_drop, h63]
    have k1 : (ks.take 32).length = 32 := by rw [List.length_take, hkl]; rfl
    have k2 : (ks.drop 32).length = 32 := by rw [List.length_drop, hkl]
    have hLL : c.L = weave (I.take 31) ((ks.take 32).map Ch.L) ++ mid :: weave (I.drop 32) ((ks.drop 32).map Ch.L) := by
      rw [← weave_cut _ _ mid _ _ (by rw [List.length_map, k1, l1]) (by rw [List.length_map, k2, l2]), ← List.map_append, List.take_append_drop, ← hIL]; exact hL
    have w1 : (weave (I.take 31) ((ks.take 32).map Ch.L)).length = c.L.length - (32 + ((ks.drop 32).map fun k => k.L.length).sum) := by
      rw [weave_len _ _ (by rw [List.length_map, k1, l1]), l1, List.map_map]
      show 31 + ((ks.take 32).map fun k => k.L.length).sum = _
      omega
    have w2 : (weave (I.drop 32) ((ks.drop 32).map Ch.L)).length = 31 + ((ks.drop 32).map fun k => k.L.length).sum := by
      rw [weave_len _ _ (by rw [List.length_map, k2, l2]), l2, List.map_map]; rfl
    have lo : ∀ x, (x = c.b ∨ (Value.slice (some ⟨g, 0, none⟩) 31 cap).ownBlock = some x ∨ cv1.ownBlock = some x) → c.F x := by
      rintro x (hx | hx | hx)
      · exact (f3 x).2 (.inl hx)
      · exact (f3 x).2 (.inr (.inl hx))
      · exact (f3 x).2 (.inr (.inr (.inl (T.cb.symm.trans hx))))
    have hlt0 : ∀ x, (x = c.b ∨ (Value.slice (some ⟨g, 0, none⟩) 31 cap).ownBlock = some x ∨ cv1.ownBlock = some x) → x < w.heap.size := by
      rintro x (hx | hx | hx)
      · rw [hx]; exact hN.lt
      · exact hI.blk x hx
      · exact hC.blk x (T.cb.symm.trans hx)
    have hkF : ∀ k ∈ ks, ∀ x, k.F x → c.F x := fun k hk x hx => (f3 x).2 (.inr (.inr (.inr ⟨k, hk, hx⟩)))
    have hklt : ∀ k ∈ ks, ∀ x, k.F x → x < w.heap.size := fun k hk x hx => (hR k hk).lt d k x hx
    have hRk : ∀ k ∈ ks, Rep w' ow B d k := fun k hk => (hR k hk).keeps T.keep hB (by
        rintro x (hx | hx | hx)
        · rw [hx]; exact (f4 _ hcF).1
        · exact (f4 x ((f3 x).2 (.inr (.inl hx)))).1
        · exact (f4 x ((f3 x).2 (.inr (.inr (.inl hx))))).1) (by
        intro x hx
        rintro (h | h | h)
        · exact (f8 k hk).1 (h ▸ hx)
        · exact (f8 k hk).2.1 x h hx
        · exact (f8 k hk).2.2 x h hx)
    have hpw := f9
    rw [← List.take_append_drop 32 ks] at hpw
    obtain ⟨pw1, pw2, pw3⟩ := List.pairwise_append.1 hpw
    refine ⟨mid, ⟨c.b, 31, weave (I.take 31) ((ks.take 32).map Ch.L), fun x => x = c.b ∨ (Value.slice (some ⟨g, 0, none⟩) 31 cap).ownBlock = some x ∨ cv1.ownBlock = some x ∨ ∃ k ∈ ks.take 32, k.F x, false⟩, ⟨r, 31, weave (I.drop 32) ((ks.drop 32).map Ch.L), fun x => x = r ∨ iv2.ownBlock = some x ∨ cv2.ownBlock = some x ∨ ∃ k ∈ ks.drop 32, k.F x, false⟩, rfl,
      ⟨ow, _, cv1, I.take 31, ks.take 32, ?_, T.i1, T.c1, by rw [k1, l1], l1.symm, rfl, fun k hk => hRk k (htm k hk), fun k hk => hz k (htm k hk), .inr ⟨rfl, rfl, fun x => Iff.rfl, fun x hx => f4 x ?_, f5, ?_, ?_, fun k hk => ⟨(f8 k (htm k hk)).1, (f8 k (htm k hk)).2.1, ?_⟩, pw1⟩⟩,
      ⟨ow, iv2, cv2, I.drop 32, ks.drop 32, ?_, T.i2, T.c2, by rw [k2, l2], l2.symm, rfl, fun k hk => hRk k (hdm k hk), fun k hk => hz k (hdm k hk), .inr ⟨rfl, rfl, fun x => Iff.rfl, fun x hx => ?_, fun e => (T.ni _ e).2 rfl, fun e => (T.nc _ e).2.1 rfl, fun x hx hx' => (T.nc x hx').2.2 hx, fun k hk => ⟨fun hx => ?_, fun x hx hx' => ?_, fun x hx hx' => ?_⟩, pw2⟩⟩,
      rfl, hLL, rfl, rfl, rfl, rfl, fun x hx => ?_, fun x hx => ?_, fun x hx hx' => ?_, T.keep.mono fun x _ hx => ?_⟩
    · show NodeAt w' c.b ow _ cv1 (weave (I.take 31) ((ks.take 32).map Ch.L)).length
      rw [w1]; exact T.n1
    · rcases hx with hx | hx | hx | ⟨k, hk, hx⟩
      · exact lo x (.inl hx)
      · exact lo x (.inr (.inl hx))
      · exact lo x (.inr (.inr hx))
      · exact hkF k (htm k hk) x hx
    · rw [T.cb]; exact f6
    · rw [T.cb]; exact f7
    · rw [T.cb]; exact (f8 k (htm k hk)).2.2
    · show NodeAt w' r ow iv2 cv2 (weave (I.drop 32) ((ks.drop 32).map Ch.L)).length
      rw [w2]; exact T.n2
    · rcases hx with rfl | hx | hx | ⟨k, hk, hx⟩
      · have := T.rn; omega
      · have := T.ni x hx; omega
      · have := T.nc x hx; omega
      · exact f4 x (hkF k (hdm k hk) x hx)
    · have h1 : r < w.heap.size := hklt k (hdm k hk) _ hx
      have := T.rn; omega
    · have := hklt k (hdm k hk) _ hx'; have := T.ni x hx; omega
    · have := hklt k (hdm k hk) _ hx'; have := T.nc x hx; omega
    · rcases hx with hx | hx | hx | ⟨k, hk, hx⟩
      · exact lo x (.inl hx)
      · exact lo x (.inr (.inl hx))
      · exact lo x (.inr (.inr hx))
      · exact hkF k (htm k hk) x hx
    · rcases hx with rfl | hx | hx | ⟨k, hk, hx⟩
      · exact .inr T.rn
      · exact .inr (T.ni x hx).1
      · exact .inr (T.nc x hx).1
      · exact .inl (hkF k (hdm k hk) x hx)
    · rcases hx with hx | hx | hx | ⟨k, hk, hx⟩
      · have h0 := hlt0 x (.inl hx)
        rcases hx' with rfl | h | h | ⟨k', hk', h⟩
        · have := T.rn; omega
        · have := T.ni x h; omega
        · have := T.nc x h; omega
        · exact (f8 k' (hdm k' hk')).1 (hx ▸ h)
      · have h0 := hlt0 x (.inr (.inl hx))
        rcases hx' with rfl | h | h | ⟨k', hk', h⟩
        · have := T.rn; omega
        · have := T.ni x h; omega
        · have := T.nc x h; omega
        · exact (f8 k' (hdm k' hk')).2.1 x hx h
      · have h0 := hlt0 x (.inr (.inr hx))
        rcases hx' with rfl | h | h | ⟨k', hk', h⟩
        · have := T.rn; omega
        · have := T.ni x h; omega
        · have := T.nc x h; omega
        · exact (f8 k' (hdm k' hk')).2.2 x (T.cb.symm.trans hx) h
      · have h0 := hklt k (htm k hk) x hx
        rcases hx' with rfl | h | h | ⟨k', hk', h⟩
        · have := T.rn; omega
        · have := T.ni x h; omega
        · have := T.nc x h; omega
        · exact pw3 k hk k' hk' x hx h
    · rcases hx with hx | hx | hx
      · exact (f3 x).2 (.inl hx)
      · exact (f3 x).2 (.inr (.inl hx))
      · exact (f3 x).2 (.inr (.inr (.inl hx)))
end Go.Proofs.Qxb6601392a.Bt
