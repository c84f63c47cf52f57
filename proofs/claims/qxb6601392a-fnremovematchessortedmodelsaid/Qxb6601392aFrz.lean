import Derived.Test.Qxb6601392aStepA
namespace Go.Proofs.Qxb6601392a.Bt
open Go.RowKit

/-! ### what kind of block -/
def Typ (w : World) (x : Nat) (t : TypeId) : Prop := ∃ cs f, w.heap[x]? = some (.cells cs t f)
theorem Typ.uniq {w : World} {x : Nat} {t t' : TypeId} (h : Typ w x t) (h' : Typ w x t') : t = t' := by
  obtain ⟨cs, f, h⟩ := h
  obtain ⟨cs', f', h'⟩ := h'
  rw [h] at h'
  cases h'; rfl
theorem Own.typ {e : TypeId} {z n : Nat} {w : World} {v : Value} {xs : List Value} (h : Own e z w v n xs) {k : Nat} (hk : v.ownBlock = some k) : Typ w k e := by
  obtain ⟨_, hc⟩ := h
  rcases hc with ⟨rfl, _⟩ | ⟨g, cap, cur, rfl, _, hg, _⟩
  · simp [Value.ownBlock] at hk
  · simp [Value.ownBlock] at hk
    subst hk
    exact ⟨cur, _, hg⟩
theorem NodeAt.typ {w : World} {b o p : Nat} {iv cv : Value} (h : NodeAt w b o iv cv p) : Typ w b 62 := ⟨_, _, h⟩
theorem OwnerAt.typ {w : World} {o : Nat} (h : OwnerAt w o) : Typ w o 58 := ⟨_, _, h⟩
/-- unchanged, or a block of the model's -/
def Same (w w' : World) (x : Nat) : Prop := w'.heap[x]? = w.heap[x]? ∨ Typ w x 9 ∨ Typ w x 64
theorem Same.of {w w' : World} {x : Nat} {t : TypeId} (h : Same w w' x) (ht : Typ w x t) (h9 : t ≠ 9) (h64 : t ≠ 64) : w'.heap[x]? = w.heap[x]? := by
  rcases h with h | h | h
  · exact h
  · exact absurd (ht.uniq h) h9
  · exact absurd (ht.uniq h) h64

/-- THE FRAME BY KINDS: blocks of the model may turn, wherever they lie -/
theorem Rep.keepT {w w' : World} {o B : Nat} (hB : ∀ x, x < B → Same w w' x) : ∀ (d : Nat) (c : Ch), Rep w o B d c → (∀ x, c.F x → Same w w' x) → Rep w' o B d c := by
  intro d
  induction d with
  | zero =>
    intro c h hF
    obtain ⟨ow, iv, cv, hN, hI, hC, hm, hf⟩ := h
    obtain ⟨b1, b2, b3, _⟩ := hf.blocks
    have hh : ∀ x, (x < B ∨ c.F x) → Same w w' x := fun x hx => hx.elim (hB x) (hF x)
    refine ⟨ow, iv, cv, hN.of_block ((hh _ b1).of hN.typ (by decide) (by decide)), hI.of_block (fun k hk => (hh k (b2 k hk)).of (hI.typ hk) (by decide) (by decide)), hC.of_block (fun k hk => (hh k (b3 k hk)).of (hC.typ hk) (by decide) (by decide)), hm, ?_⟩
    rcases hf with ⟨h1, h2, h3, h4, r⟩ | h
    · exact .inl ⟨h1, h2, ((hB ow h4).of h3.typ (by decide) (by decide)).trans h3, h4, r⟩
    · exact .inr h
  | succ d ih =>
    intro c h hF
    obtain ⟨ow, iv, cv, I, ks, hN, hI, hC, hl, hm, hL, hR, hz, hf⟩ := h
    obtain ⟨b1, b2, b3, b4⟩ := hf.blocks
    have hh : ∀ x, (x < B ∨ c.F x) → Same w w' x := fun x hx => hx.elim (hB x) (hF x)
    refine ⟨ow, iv, cv, I, ks, hN.of_block ((hh _ b1).of hN.typ (by decide) (by decide)), hI.of_block (fun k hk => (hh k (b2 k hk)).of (hI.typ hk) (by decide) (by decide)), hC.of_block (fun k hk => (hh k (b3 k hk)).of (hC.typ hk) (by decide) (by decide)), hl, hm, hL, fun k hk => ih k (hR k hk) (fun x hx => ?_), hz, ?_⟩
    · rcases b4 k hk x hx with h | h
      · exact hF x h
      · exact absurd hx ((hR k hk).frozenF h x)
    · rcases hf with ⟨h1, h2, h3, h4, r⟩ | h
      · exact .inl ⟨h1, h2, ((hB ow h4).of h3.typ (by decide) (by decide)).trans h3, h4, r⟩
      · exact .inr h

/-- what is owned is no block of the model's -/
theorem Rep.Ftyp {w : World} {o B : Nat} : ∀ (d : Nat) (c : Ch), Rep w o B d c → ∀ x, c.F x → Typ w x 62 ∨ Typ w x 75 ∨ Typ w x 28 := by
  intro d
  induction d with
  | zero =>
    intro c h x hx
    obtain ⟨ow, iv, cv, hN, hI, hC, hm, hf⟩ := h
    rcases hf with ⟨_, _, _, _, _, _, _, _, h9⟩ | ⟨_, _, h3, _⟩
    · exact absurd hx (h9 x)
    · rcases (h3 x).1 hx with rfl | h | h | ⟨k, hk, _⟩
      · exact .inl hN.typ
      · exact .inr (.inl (hI.typ h))
      · exact .inr (.inr (hC.typ h))
      · cases hk
  | succ d ih =>
    intro c h x hx
    obtain ⟨ow, iv, cv, I, ks, hN, hI, hC, hl, hm, hL, hR, hz, hf⟩ := h
    rcases hf with ⟨_, _, _, _, _, _, _, _, h9⟩ | ⟨_, _, h3, _⟩
    · exact absurd hx (h9 x)
    · rcases (h3 x).1 hx with rfl | h | h | ⟨k, hk, hx⟩
      · exact .inl hN.typ
      · exact .inr (.inl (hI.typ h))
      · exact .inr (.inr (hC.typ h))
      · exact ih k (hR k hk) x hx
theorem Model.typ {w : World} {kv ev : Value} {L : List It} (h : Model w kv ev L) {x : Nat} (hx : kv.ownBlock = some x ∨ ev.ownBlock = some x) : Typ w x 9 ∨ Typ w x 64 := hx.elim (fun e => .inl (h.k.typ e)) (fun e => .inr (h.e.typ e))
theorem Model.notF {w : World} {kv ev : Value} {L : List It} (h : Model w kv ev L) {o B d : Nat} {c : Ch} (hR : Rep w o B d c) {x : Nat} (hx : kv.ownBlock = some x ∨ ev.ownBlock = some x) : ¬ c.F x := fun hF => by
  have h1 := h.typ hx
  have h2 := hR.Ftyp d c x hF
  rcases h1 with h1 | h1 <;> rcases h2 with h2 | h2 | h2 <;> exact absurd (h1.uniq h2) (by decide)
theorem Model.notO {w : World} {kv ev : Value} {L : List It} (h : Model w kv ev L) {o : Nat} (ho : OwnerAt w o) {x : Nat} (hx : kv.ownBlock = some x ∨ ev.ownBlock = some x) : x ≠ o := fun e => by
  subst e
  rcases h.typ hx with h1 | h1 <;> exact absurd (h1.uniq ho.typ) (by decide)
/-- behind a change that keeps all but the model's own blocks -/
theorem Rep.model {w w' : World} {o B d : Nat} {c : Ch} (h : Rep w o B d c) (hB : B ≤ w.heap.size) {kv ev : Value} {L : List It} (hm : Model w kv ev L) (hk : Keeps (fun y => kv.ownBlock = some y ∨ ev.ownBlock = some y) w w') : Rep w' o B d c := by
  have hs : ∀ x, x < w.heap.size → Same w w' x := fun x hx => by
    by_cases hx' : kv.ownBlock = some x ∨ ev.ownBlock = some x
    · exact .inr (hm.typ hx')
    · exact .inl (hk.block x hx hx')
  exact Rep.keepT (fun x hx => hs x (by omega)) d c h (fun x hx => hs x (h.lt d c x hx))
theorem Root.model {w w' : World} {o B d : Nat} {c : Ch} (h : Root w o B d c) {kv ev : Value} {L : List It} (hm : Model w kv ev L) (hk : Keeps (fun y => kv.ownBlock = some y ∨ ev.ownBlock = some y) w w') : Root w' o B d c := by
  have hB := h.hB
  have hs := hk.size
  exact ⟨h.rep.model hB hm hk, by omega, (hk.block o (Array.getElem?_eq_some_iff.1 h.ho).1 (fun e => hm.notO h.ho e rfl)).trans h.ho, h.fz, h.sorted, h.ok, h.m63, h.pos⟩

/-! ### a tree seen by another owner: all of it frozen -/
def frz (c : Ch) : Ch := ⟨c.b, c.m, c.L, fun _ => False, true⟩
theorem Rep.freeze {w : World} {o1 B1 o2 B2 : Nat} (hBB : B1 ≤ B2) (hsz : w.heap.size ≤ B2) (ho : OwnerAt w o1) (ho2 : B2 ≤ o2) : ∀ (d : Nat) (c : Ch), Rep w o1 B1 d c → Rep w o2 B2 d (frz c) := by
  have hol : o1 < w.heap.size := (Array.getElem?_eq_some_iff.1 ho).1
  intro d
  induction d with
  | zero =>
    intro c h
    obtain ⟨ow, iv, cv, hN, hI, hC, hm, hf⟩ := h
    have how : OwnerAt w ow ∧ ow < B2 := by
      rcases hf with ⟨_, _, h3, h4, _⟩ | ⟨_, rfl, _⟩
      · exact ⟨h3, by omega⟩
      · exact ⟨ho, by omega⟩
    exact ⟨ow, iv, cv, hN, hI, hC, hm, .inl ⟨rfl, by omega, how.1, how.2, Nat.lt_of_lt_of_le hN.lt hsz, fun x hx => by have := hI.blk x hx; omega, fun x hx => by have := hC.blk x hx; omega, fun k hk => (by cases hk), fun x hx => hx⟩⟩
  | succ d ih =>
    intro c h
    obtain ⟨ow, iv, cv, I, ks, hN, hI, hC, hl, hm, hL, hR, hz, hf⟩ := h
    have how : OwnerAt w ow ∧ ow < B2 := by
      rcases hf with ⟨_, _, h3, h4, _⟩ | ⟨_, rfl, _⟩
      · exact ⟨h3, by omega⟩
      · exact ⟨ho, by omega⟩
    refine ⟨ow, iv, cv, I, ks.map frz, hN, hI, by rw [List.map_map]; exact hC, by rw [List.length_map]; exact hl, hm, by rw [List.map_map]; exact hL, fun k hk => ?_, fun k hk => ?_, .inl ⟨rfl, by omega, how.1, how.2, Nat.lt_of_lt_of_le hN.lt hsz, fun x hx => by have := hI.blk x hx; omega, fun x hx => by have := hC.blk x hx; omega, fun k hk => ?_, fun x hx => hx⟩⟩
    · obtain ⟨k', hk', rfl⟩ := List.mem_map.1 hk
      exact ih k' (hR k' hk')
    · obtain ⟨k', hk', rfl⟩ := List.mem_map.1 hk
      exact hz k' hk'
    · obtain ⟨k', hk', rfl⟩ := List.mem_map.1 hk
      rfl

/-! ### a put on a tree whose model lies anywhere -/
def StepPost2 (w : World) (o B : Nat) (c : Ch) (kv ev : Value) (x : It) (nb : Nat) (kv' ev' : Value) (w' : World) : Prop :=
  ∃ d' c', c'.b = nb ∧ Root w' o B d' c' ∧ Model w' kv' ev' c'.L ∧ c'.L = ins x c.L ∧ (∀ y, c'.F y → c.F y ∨ w.heap.size ≤ y) ∧ (∀ y, (kv'.ownBlock = some y ∨ ev'.ownBlock = some y) → (kv.ownBlock = some y ∨ ev.ownBlock = some y) ∨ w.heap.size ≤ y) ∧
    ∃ w2, Keeps c.F w w2 ∧ Model w2 kv ev c.L ∧ Keeps (fun y => kv.ownBlock = some y ∨ ev.ownBlock = some y) w2 w'

theorem putStep2_any {w : World} {o B d : Nat} {c : Ch} {kv ev : Value} (hr : Root w o B d c) (hm : Model w kv ev c.L) (hlen : c.L.length ≤ 100000) (x : It) (hx : x.ok) :
    Calls Try.prog 14 #[.pointer (some ⟨c.b, 0, none⟩), .agg #[.string x.k, .string x.v, .int .u64 x.r], .pointer (some ⟨o, 0, none⟩), kv, ev] w fun e w3 => ∃ nb kv' ev', e = .returned (.tuple #[.pointer (some ⟨nb, 0, none⟩), kv', ev', .bool true]) ∧ StepPost2 w o B c kv ev x nb kv' ev' w3 := by
  have hB := hr.hB
  have hlt : ∀ y, c.F y → y < w.heap.size := hr.rep.lt d c
  obtain ⟨i, f, hp⟩ := pos_exists c.L x.key hr.sorted
  have hf : hasKey c.L x.key = f := by
    cases f with
    | true => exact (hp.ins_hit).choose_spec.2.2.2
    | false => exact (hp.ins_new hr.sorted).2
  refine putStep_raw hm hr.sorted hlen hr.ok x hx i f hp (fun nb w2 => ∃ d' c', c'.b = nb ∧ Root w2 o B d' c' ∧ c'.L = ins x c.L ∧ (∀ y, c'.F y → c.F y ∨ w.heap.size ≤ y) ∧ Keeps c.F w w2) (fun w1 hb1 hsz1 => ?_) (fun nb kv' ev' w3 => StepPost2 w o B c kv ev x nb kv' ev' w3) ?_
  · refine (putAtRoot_any (hr.below hb1) (by omega) x hx).mono ?_
    rintro e w2 ⟨nb, gr, hd, rfl, q1, q2, d', c', q3, q4, q5, q6, q7⟩
    rw [hf] at q1 q2
    refine ⟨nb, gr, hd, rfl, q1, q2, ⟨d', c', q3, q4, q5, fun y hy => ?_, (keeps_of_below hb1).andThen q7 (fun y _ hy => hy)⟩, fun k hk => q7.block k (by omega) (fun e => by have := hlt k e; omega)⟩
    rcases q6 y hy with h1 | h1
    · exact .inl h1
    · exact .inr (by omega)
  · rintro nb w2 ⟨d', c', q3, q4, q5, q6, q7⟩
    have hs2 := q7.size
    have hM2 : Model w2 kv ev c.L := hm.keeps q7 (fun y hy => hm.notF hr.rep hy)
    refine (modelPut_any hM2 hr.sorted hlen hr.ok x hx).mono ?_
    rintro e w3 ⟨kv', ev', rfl, r1, r2, r3⟩
    refine ⟨kv', ev', rfl, d', c', q3, q4.model hM2 r2, by rw [q5]; exact r1, q5, q6, fun y hy => ?_, w2, q7, hM2, r2⟩
    rcases r3 y hy with h1 | h1
    · exact .inl h1
    · exact .inr (by omega)
end Go.Proofs.Qxb6601392a.Bt
