import Derived.Test.Qxb6601392aRootB
namespace Go.Proofs.Qxb6601392a.Bt
open Go.RowKit

/-- a root that o may change -/
structure Root (w : World) (o B d : Nat) (c : Ch) : Prop where
  rep : Rep w o B d c
  hB : B ≤ w.heap.size
  ho : OwnerAt w o
  fz : c.fz = false
  sorted : Sorted c.L
  ok : ∀ y ∈ c.L, y.ok
  m63 : c.m ≤ 63
  pos : 0 < d → 1 ≤ c.m

def RootPost (w : World) (o B : Nat) (c : Ch) (x : It) (nb : Nat) (gr : Int) (hd : Bool) (w' : World) : Prop :=
  gr = (if hasKey c.L x.key then 0 else 1) ∧ hd = hasKey c.L x.key ∧ ∃ d' c', c'.b = nb ∧ Root w' o B d' c' ∧ c'.L = ins x c.L ∧ (∀ y, c'.F y → c.F y ∨ w.heap.size ≤ y) ∧ Keeps c.F w w'

theorem ins_ok {x : It} {L : List It} (hx : x.ok) (h : ∀ y ∈ L, y.ok) : ∀ y ∈ ins x L, y.ok := fun y hy => by
  rcases ins_mem x L hy with rfl | hy
  · exact hx
  · exact h y hy

theorem Rep.below {w w' : World} {o B d : Nat} {c : Ch} (h : Rep w o B d c) (hB : B ≤ w.heap.size) (hb : Below w.heap.size w w') : Rep w' o B d c :=
  Rep.keep (fun y hy => hb.block y (by omega)) d c h (fun y hy => hb.block y (h.lt d c y hy))

theorem putAtRoot_any {w : World} {o B d : Nat} {c : Ch} (h : Root w o B d c) (hlen : c.L.length ≤ 1000000000) (x : It) (hx : x.ok) :
    Calls Try.prog 33 #[.pointer (some ⟨c.b, 0, none⟩), .string x.k, .agg #[.string x.v, .int .u64 x.r], .pointer (some ⟨o, 0, none⟩)] w fun e w' => ∃ nb gr hd, e = .returned (.tuple #[.pointer (some ⟨nb, 0, none⟩), .int .i64 gr, .bool hd]) ∧ RootPost w o B c x nb gr hd w' := by
  have hB := h.hB
  have hol : o < w.heap.size := (Array.getElem?_eq_some_iff.1 h.ho).1
  have hlt : ∀ y, c.F y → y < w.heap.size := h.rep.lt d c
  obtain ⟨ow, iv, cv, I, n1, n2, n3⟩ := h.rep.node
  have how : ow = o := by
    cases d with
    | zero =>
      obtain ⟨ow', iv', cv', hN, _, _, _, hf⟩ := h.rep
      rcases hf with ⟨e, _⟩ | ⟨_, rfl, _⟩
      · rw [h.fz] at e; cases e
      · have := n1.symm.trans hN
        simp at this; exact this.1
    | succ d =>
      obtain ⟨iv', cv', I', ks', H⟩ := h.rep.nodeO h.fz
      have := n1.symm.trans H.n
      simp at this; exact this.1
  subst how
  obtain ⟨A, q, rfl, _, _⟩ := n2.form
  rcases Nat.lt_or_ge c.m 63 with hm | hm
  · refine (root_room_raw n1 (by omega) x (fun gr hd w' => RootPost w ow B c x c.b gr hd w') (fun w1 hb1 => ?_)).mono ?_
    · have hs1 := hb1.size
      refine wrap_put _ _ x w1 _ (fun w2 hb2 => ?_)
      have hb : Below w.heap.size w w2 := hb1.trans (hb2.mono hs1)
      have hs2 := hb.size
      refine (putOk d w2 ow B c x ⟨h.rep.below hB hb, by omega, (hb.block ow hol).trans h.ho, h.fz, h.sorted, h.ok, hx, hlen⟩ (by omega)).mono ?_
      rintro e w' ⟨c', rfl, r1, r2, r3, r4, r5, r6, r7, r8⟩
      have hs' := r8.size
      refine ⟨_, _, rfl, rfl, rfl, d, c', r2, ⟨r1, by omega, ?_, r6, ?_, ?_, by omega, fun hd => by have := h.pos hd; omega⟩, r3, fun y hy => ?_, (keeps_of_below hb).andThen r8 (fun y _ hy => hy)⟩
      · exact (r8.block ow (by omega) (fun e => (h.rep.FB ow e).2 rfl)).trans ((hb.block ow hol).trans h.ho)
      · rw [r3]; exact ins_sorted x _ h.sorted
      · rw [r3]; exact ins_ok hx h.ok
      · rcases r7 y hy with h1 | h1
        · exact .inl h1
        · exact .inr (by omega)
    · rintro e w' ⟨gr, hd, rfl, hr⟩
      exact ⟨_, _, _, rfl, hr⟩
  · have hm63 : c.m = 63 := by have := h.m63; omega
    have hI63 : I.length = 63 := by omega
    rw [hI63] at n1
    refine root_split_raw n1 x (by omega)
      (fun w1 w4 mid r => ∃ c1 c2 : Ch, r = c2.b ∧ c1.b = c.b ∧ Rep w4 ow B d c1 ∧ Rep w4 ow B d c2 ∧ c.L = c1.L ++ mid :: c2.L ∧ c1.m = 31 ∧ c2.m = 31 ∧ c1.fz = false ∧ c2.fz = false ∧ (∀ y, c1.F y → c.F y) ∧ (∀ y, c2.F y → c.F y ∨ w1.heap.size < y) ∧ (∀ y, c1.F y → ¬ c2.F y) ∧ Keeps c.F w1 w4) ?_ ?_
      (fun nb gr hd w' => RootPost w ow B c x nb gr hd w') ?_
    · intro w1 hb1 hlt1
      refine wrap_split _ _ w1 _ (fun w2 hb2 hlt2 => ?_) ?_
      · have hs1 := hb1.size
        have hb : Below w.heap.size w w2 := hb1.trans (hb2.mono hs1)
        refine (split_any (h.rep.below hB hb) (by omega) (by omega) h.fz hm63 h.ok (by omega)).mono ?_
        rintro e w' ⟨mid, c1, c2, rfl, s1, s2, s3, s4, s5, s6, s7, s8, s9, s10, s11, s12⟩
        refine ⟨mid, c2.b, rfl, ⟨c1, c2, rfl, s3, s1, s2, s4, s5, s6, s7, s8, s9, fun y hy => ?_, s11, (keeps_of_below hb2).andThen s12 (fun y _ hy => hy)⟩, s12.block _ (by omega) (fun e => ?_)⟩
        · rcases s10 y hy with h1 | h1
          · exact .inl h1
          · exact .inr (by omega)
        · have := hlt _ e; omega
      · rintro mid r w' w'' ⟨c1, c2, rfl, s3, s1, s2, s4, s5, s6, s7, s8, s9, s10, s11, s12⟩ hk
        have hs1 := hb1.size
        have hs' := s12.size
        refine ⟨c1, c2, rfl, s3, s1.keeps hk (by omega) (fun y hy => by omega) (fun y hy e => ?_), s2.keeps hk (by omega) (fun y hy => by omega) (fun y hy e => ?_), s4, s5, s6, s7, s8, s9, s10, s11, s12.andThen hk (fun y hy e => by omega)⟩
        · have := hlt _ (s9 y hy); omega
        · rcases s10 y hy with h1 | h1
          · have := hlt _ h1; omega
          · omega
    · rintro w1 w4 mid r hb1 hlt1 ⟨c1, c2, rfl, s3, s1, s2, s4, s5, s6, s7, s8, s9, s10, s11, s12⟩
      obtain ⟨_, _, _, _, a1, _, _⟩ := s1.node
      obtain ⟨_, _, _, _, a2, _, _⟩ := s2.node
      refine ⟨(h.ok mid (by rw [s4]; simp)).v, s12.size, s12.block _ hlt1 (fun e => by have := hlt _ e; omega), c1.L.length, c2.L.length, by rw [← s3]; exact a1.c3, a2.c3, ?_⟩
      rw [s4]; simp; omega
    · rintro w1 w4 mid r w8 nb g1 g2 hb1 ⟨c1, c2, rfl, s3, s1, s2, s4, s5, s6, s7, s8, s9, s10, s11, s12⟩ N
      have hs1 := hb1.size
      have hs4 := s12.size
      have hs8 := N.keep.size
      have hlo := N.lo
      have hlt1 := N.lt1
      have hlt2 := N.lt2
      have l1 : ∀ y, c1.F y → y < w4.heap.size := s1.lt d c1
      have l2 : ∀ y, c2.F y → y < w4.heap.size := s2.lt d c2
      have f1 : ∀ y, c1.F y → B ≤ y ∧ y ≠ ow := s1.FB
      have f2 : ∀ y, c2.F y → B ≤ y ∧ y ≠ ow := s2.FB
      have R1 : Rep w8 ow B d c1 := s1.keeps N.keep (by omega) (fun y h => h.elim) (fun y _ h => h)
      have R2 : Rep w8 ow B d c2 := s2.keeps N.keep (by omega) (fun y h => h.elim) (fun y _ h => h)
      have hF8 : ∀ y, (y = nb ∨ y = g1 ∨ y = g2 ∨ c1.F y ∨ c2.F y) → c.F y ∨ w.heap.size ≤ y := by
        rintro y (h1 | h1 | h1 | h1 | h1)
        · exact .inr (by omega)
        · exact .inr (by omega)
        · exact .inr (by omega)
        · exact .inl (s9 y h1)
        · rcases s10 y h1 with h2 | h2
          · exact .inl h2
          · exact .inr (by omega)
      have hrep : Rep w8 ow B (d + 1) ⟨nb, 1, c.L, fun y => y = nb ∨ y = g1 ∨ y = g2 ∨ c1.F y ∨ c2.F y, false⟩ := by
        refine ⟨ow, .slice (some ⟨g1, 0, none⟩) 1 1, .slice (some ⟨g2, 0, none⟩) 2 2, [mid], [c1, c2], N.n, ?_, ?_, rfl, rfl, ?_, ?_, ?_, .inr ⟨rfl, rfl, fun y => ?_, fun y hy => ?_, ?_, ?_, ?_, ?_, ?_⟩⟩
        · exact ⟨rfl, .inr ⟨g1, 1, _, rfl, Nat.zero_le _, N.i, Nat.le_refl _, by unfold maxLen; omega, rfl, rfl⟩⟩
        · refine ⟨rfl, .inr ⟨g2, 2, _, rfl, Nat.zero_le _, N.c, Nat.le_refl _, by unfold maxLen; omega, rfl, ?_⟩⟩
          simp [ptr, s3]
        · simp [weave, wpost, s4]
        · intro k hk; simp at hk; rcases hk with rfl | rfl
          · exact R1
          · exact R2
        · intro k hk; simp at hk; rcases hk with rfl | rfl <;> omega
        · simp [Value.ownBlock, eq_comm]
        · rcases hy with h1 | h1 | h1 | h1 | h1
          · omega
          · omega
          · omega
          · exact f1 y h1
          · exact f2 y h1
        · simp [Value.ownBlock]; omega
        · simp [Value.ownBlock]; omega
        · intro y hy; simp [Value.ownBlock] at hy ⊢; omega
        · intro k hk
          have hkl : ∀ y, k.F y → y < w4.heap.size := by
            simp at hk; rcases hk with rfl | rfl
            · exact l1
            · exact l2
          refine ⟨fun e => ?_, fun y hy e => ?_, fun y hy e => ?_⟩
          · have : nb < w4.heap.size := hkl _ e
            omega
          · simp [Value.ownBlock] at hy; have := hkl _ e; omega
          · simp [Value.ownBlock] at hy; have := hkl _ e; omega
        · simp; exact s11
      refine wrap_put _ _ x w8 _ (fun w9 hb9 => ?_)
      have hs9 := hb9.size
      have K8 : Keeps c.F w w8 := ((keeps_of_below hb1).andThen s12 (fun y _ hy => hy)).andThen N.keep (fun y _ hy => hy.elim)
      have ho8 : OwnerAt w8 ow := (K8.block ow hol (fun e => (h.rep.FB ow e).2 rfl)).trans h.ho
      refine (putOk (d + 1) w9 ow B _ x ⟨hrep.below (by omega) hb9, by omega, (hb9.block ow (by omega)).trans ho8, rfl, h.sorted, h.ok, hx, hlen⟩ (by show 1 ≤ 62; omega)).mono ?_
      rintro e w' ⟨c', rfl, r1, r2, r3, r4, r5, r6, r7, r8⟩
      have r4 : 1 ≤ c'.m := r4
      have r5 : c'.m ≤ 2 := r5
      have r3 : c'.L = ins x c.L := r3
      have hs' := r8.size
      have K9 : Keeps c.F w w' := (K8.andThen (keeps_of_below (S := fun _ => False) hb9) (fun y _ hy => hy.elim)).andThen r8 (fun y hy e => by
        rcases hF8 y e with h1 | h1
        · exact h1
        · omega)
      refine ⟨_, _, rfl, rfl, rfl, d + 1, c', r2, ⟨r1, by omega, ?_, r6, ?_, ?_, by omega, fun _ => r4⟩, r3, fun y hy => ?_, K9⟩
      · exact (K9.block ow hol (fun e => (h.rep.FB ow e).2 rfl)).trans h.ho
      · rw [r3]; exact ins_sorted x _ h.sorted
      · rw [r3]; exact ins_ok hx h.ok
      · rcases r7 y hy with h1 | h1
        · exact hF8 y h1
        · exact .inr (by omega)
end Go.Proofs.Qxb6601392a.Bt
