import Derived.Test.Qxb6601392aInsertB
import Derived.Test.Qxb6601392aFind
namespace Go.Proofs.Qxb6601392a.Bt
open Go.RowKit

def ptr (b : Nat) : Value := .pointer (some ⟨b, 0, none⟩)
/-- a children slice -/
abbrev OwnC (w : World) (v : Value) (bs : List Nat) : Prop := Own 28 1 w v bs.length (bs.map ptr)
theorem ptr_one (bs : List Nat) : ∀ u ∈ bs.map ptr, u.oneCell' = true := by
  intro u hu
  obtain ⟨b, _, rfl⟩ := List.mem_map.1 hu
  rfl

theorem OwnC.at {w : World} {v : Value} {bs : List Nat} (h : OwnC w v bs) {k b : Nat} (hb : bs[k]? = some b) :
    ∃ g cap, v = .slice (some ⟨g, 0, none⟩) bs.length cap ∧ w.cell? ⟨g, k, none⟩ = some (.pointer (some ⟨b, 0, none⟩)) ∧ (∀ j, w.frozen? ⟨g, j, none⟩ = false) ∧ bs.length ≤ cap ∧ cap ≤ maxLen := by
  have hk : k < bs.length := (List.getElem?_eq_some_iff.1 hb).1
  obtain ⟨hl, hc⟩ := h
  rcases hc with ⟨rfl, h0⟩ | ⟨g, cap, cur, rfl, h0, hg, h1, h2, h3, h4⟩
  · omega
  · refine ⟨g, cap, rfl, ?_, fun j => by simp [World.frozen?, hg], h1, h2⟩
    have e : (bs.map ptr)[k]? = some (ptr b) := by rw [List.getElem?_map, hb]; rfl
    rw [← h4, List.getElem?_take_of_lt (by omega)] at e
    show _ = some (ptr b)
    simp only [World.cell?, hg]
    simpa using e

/-- a node of the tree, as the proof sees it -/
structure Ch where
  b : Nat
  m : Nat
  L : List It
  F : Nat → Prop
  fz : Bool

/-- who owns what -/
def Foot (w : World) (o B : Nat) (c : Ch) (ow : Nat) (iv cv : Value) (ks : List Ch) : Prop :=
  (c.fz = true ∧ ow ≠ o ∧ OwnerAt w ow ∧ ow < B ∧ c.b < B ∧ (∀ x, iv.ownBlock = some x → x < B) ∧ (∀ x, cv.ownBlock = some x → x < B) ∧ (∀ k ∈ ks, k.fz = true) ∧ ∀ x, ¬ c.F x) ∨
  (c.fz = false ∧ ow = o ∧ (∀ x, c.F x ↔ (x = c.b ∨ iv.ownBlock = some x ∨ cv.ownBlock = some x ∨ ∃ k ∈ ks, k.F x)) ∧ (∀ x, c.F x → B ≤ x ∧ x ≠ o) ∧
    iv.ownBlock ≠ some c.b ∧ cv.ownBlock ≠ some c.b ∧ (∀ x, iv.ownBlock = some x → cv.ownBlock ≠ some x) ∧
    (∀ k ∈ ks, ¬ k.F c.b ∧ (∀ x, iv.ownBlock = some x → ¬ k.F x) ∧ (∀ x, cv.ownBlock = some x → ¬ k.F x)) ∧ ks.Pairwise (fun a b => ∀ x, a.F x → ¬ b.F x))

/-- what a node of depth d + 1 is, over what its children are -/
def NodeRep (w : World) (o B : Nat) (R : Ch → Prop) (c : Ch) : Prop :=
  ∃ ow iv cv I ks, NodeAt w c.b ow iv cv c.L.length ∧ OwnI w iv I ∧ OwnC w cv (ks.map Ch.b) ∧ ks.length = I.length + 1 ∧ c.m = I.length ∧ c.L = weave I (ks.map Ch.L) ∧
    (∀ k ∈ ks, R k) ∧ (∀ k ∈ ks, 31 ≤ k.m ∧ k.m ≤ 63) ∧ Foot w o B c ow iv cv ks
def LeafRep (w : World) (o B : Nat) (c : Ch) : Prop :=
  ∃ ow iv cv, NodeAt w c.b ow iv cv c.L.length ∧ OwnI w iv c.L ∧ OwnC w cv [] ∧ c.m = c.L.length ∧ Foot w o B c ow iv cv []
def Rep (w : World) (o B : Nat) : Nat → Ch → Prop
  | 0 => LeafRep w o B
  | d + 1 => NodeRep w o B (Rep w o B d)

theorem Foot.keep {w w' : World} {o B ow : Nat} {c : Ch} {iv cv : Value} {ks : List Ch} (h : Foot w o B c ow iv cv ks) (hB : ∀ x, x < B → w'.heap[x]? = w.heap[x]?) : Foot w' o B c ow iv cv ks := by
  rcases h with ⟨h1, h2, h3, h4, r⟩ | h
  · exact .inl ⟨h1, h2, (hB ow h4).trans h3, h4, r⟩
  · exact .inr h

theorem Foot.blocks {w : World} {o B ow : Nat} {c : Ch} {iv cv : Value} {ks : List Ch} (h : Foot w o B c ow iv cv ks) :
    (c.b < B ∨ c.F c.b) ∧ (∀ x, iv.ownBlock = some x → x < B ∨ c.F x) ∧ (∀ x, cv.ownBlock = some x → x < B ∨ c.F x) ∧ ∀ k ∈ ks, ∀ x, k.F x → c.F x ∨ k.fz = true := by
  rcases h with ⟨h1, h2, h3, h4, h5, h6, h7, h8, h9⟩ | ⟨h1, h2, h3, h4, r⟩
  · exact ⟨.inl h5, fun x hx => .inl (h6 x hx), fun x hx => .inl (h7 x hx), fun k hk x _ => .inr (h8 k hk)⟩
  · exact ⟨.inr ((h3 _).2 (.inl rfl)), fun x hx => .inr ((h3 _).2 (.inr (.inl hx))), fun x hx => .inr ((h3 _).2 (.inr (.inr (.inl hx)))), fun k hk x hx => .inl ((h3 _).2 (.inr (.inr (.inr ⟨k, hk, hx⟩))))⟩

theorem Rep.frozenF {w : World} {o B : Nat} : ∀ {d : Nat} {c : Ch}, Rep w o B d c → c.fz = true → ∀ x, ¬ c.F x := by
  intro d c h hf
  cases d with
  | zero =>
    obtain ⟨ow, iv, cv, _, _, _, _, hF⟩ := h
    rcases hF with ⟨_, _, _, _, _, _, _, _, h9⟩ | ⟨h1, _⟩
    · exact h9
    · rw [hf] at h1; cases h1
  | succ d =>
    obtain ⟨ow, iv, cv, I, ks, _, _, _, _, _, _, _, _, hF⟩ := h
    rcases hF with ⟨_, _, _, _, _, _, _, _, h9⟩ | ⟨h1, _⟩
    · exact h9
    · rw [hf] at h1; cases h1

/-- THE FRAME: a tree stands while its own blocks and all below B stand -/
theorem Rep.keep {w w' : World} {o B : Nat} (hB : ∀ x, x < B → w'.heap[x]? = w.heap[x]?) : ∀ (d : Nat) (c : Ch), Rep w o B d c → (∀ x, c.F x → w'.heap[x]? = w.heap[x]?) → Rep w' o B d c := by
  intro d
  induction d with
  | zero =>
    intro c h hF
    obtain ⟨ow, iv, cv, hN, hI, hC, hm, hf⟩ := h
    obtain ⟨b1, b2, b3, _⟩ := hf.blocks
    have hh : ∀ x, (x < B ∨ c.F x) → w'.heap[x]? = w.heap[x]? := fun x hx => hx.elim (hB x) (hF x)
    exact ⟨ow, iv, cv, hN.of_block (hh _ b1), hI.of_block (fun k hk => hh k (b2 k hk)), hC.of_block (fun k hk => hh k (b3 k hk)), hm, hf.keep hB⟩
  | succ d ih =>
    intro c h hF
    obtain ⟨ow, iv, cv, I, ks, hN, hI, hC, hl, hm, hL, hR, hz, hf⟩ := h
    obtain ⟨b1, b2, b3, b4⟩ := hf.blocks
    have hh : ∀ x, (x < B ∨ c.F x) → w'.heap[x]? = w.heap[x]? := fun x hx => hx.elim (hB x) (hF x)
    refine ⟨ow, iv, cv, I, ks, hN.of_block (hh _ b1), hI.of_block (fun k hk => hh k (b2 k hk)), hC.of_block (fun k hk => hh k (b3 k hk)), hl, hm, hL, fun k hk => ih k (hR k hk) (fun x hx => ?_), hz, hf.keep hB⟩
    rcases b4 k hk x hx with h | h
    · exact hF x h
    · exact absurd hx ((hR k hk).frozenF h x)

/-- all that is owned lies in the heap -/
theorem Rep.lt {w : World} {o B : Nat} : ∀ (d : Nat) (c : Ch), Rep w o B d c → ∀ x, c.F x → x < w.heap.size := by
  intro d
  induction d with
  | zero =>
    intro c h x hx
    obtain ⟨ow, iv, cv, hN, hI, hC, hm, hf⟩ := h
    rcases hf with ⟨_, _, _, _, _, _, _, _, h9⟩ | ⟨_, _, h3, _⟩
    · exact absurd hx (h9 x)
    · rcases (h3 x).1 hx with rfl | h | h | ⟨k, hk, _⟩
      · exact hN.lt
      · exact hI.blk x h
      · exact hC.blk x h
      · cases hk
  | succ d ih =>
    intro c h x hx
    obtain ⟨ow, iv, cv, I, ks, hN, hI, hC, hl, hm, hL, hR, hz, hf⟩ := h
    rcases hf with ⟨_, _, _, _, _, _, _, _, h9⟩ | ⟨_, _, h3, _⟩
    · exact absurd hx (h9 x)
    · rcases (h3 x).1 hx with rfl | h | h | ⟨k, hk, hx⟩
      · exact hN.lt
      · exact hI.blk x h
      · exact hC.blk x h
      · exact ih k (hR k hk) x hx

theorem Rep.keeps {w w' : World} {o B d : Nat} {c : Ch} {S : Nat → Prop} (h : Rep w o B d c) (hk : Keeps S w w') (hB : B ≤ w.heap.size) (hSB : ∀ x, S x → B ≤ x) (hS : ∀ x, c.F x → ¬ S x) : Rep w' o B d c :=
  Rep.keep (fun x hx => hk.block x (by omega) (fun s => by have := hSB x s; omega)) d c h (fun x hx => hk.block x (h.lt d c x hx) (hS x hx))

/-- the node itself, whatever its depth -/
theorem Rep.node {w : World} {o B d : Nat} {c : Ch} (h : Rep w o B d c) : ∃ ow iv cv I, NodeAt w c.b ow iv cv c.L.length ∧ OwnI w iv I ∧ I.length = c.m := by
  cases d with
  | zero => obtain ⟨ow, iv, cv, hN, hI, hC, hm, _⟩ := h; exact ⟨ow, iv, cv, _, hN, hI, hm.symm⟩
  | succ d => obtain ⟨ow, iv, cv, I, ks, hN, hI, hC, hl, hm, _⟩ := h; exact ⟨ow, iv, cv, I, hN, hI, hm.symm⟩

theorem eqOwner (w : World) (d a b : Nat) (h : a = b ∨ (OwnerAt w a ∧ OwnerAt w b)) : (Op.equalIn (d + 1) 26 (.pointer (some ⟨a, 0, none⟩)) (.pointer (some ⟨b, 0, none⟩))).run Try.prog w = .ok (decide (a = b)) w := by
  have hs : ∀ W, (Go.sizeOf 58).run Try.prog W = .ok 1 W := fun W => by kernel_rfl
  have hq : (sameAddr ⟨a, 0, none⟩ ⟨b, 0, none⟩).run Try.prog w = .ok (decide (a = b)) w := by
    by_cases e : a = b
    · subst e; rw [run_sameAddr_same]; simp
    · obtain ⟨ha, hb⟩ := h.resolve_left e
      rw [run_sameAddr_other (a := ⟨a, 0, none⟩) (b := ⟨b, 0, none⟩) w (fun h => e (by injection h)) ha hb]; simp [e]
  simp [Op.equalIn, run_underlying Try.underlying26, hs, hq, Result.andThen]
theorem eqlOwner (w : World) (a b : Nat) (h : a = b ∨ (OwnerAt w a ∧ OwnerAt w b)) : (binOp .eql 26 (.pointer (some ⟨a, 0, none⟩)) (.pointer (some ⟨b, 0, none⟩))).run Try.prog w = .ok (.bool (decide (a = b))) w := by
  simp only [binOp]
  simp [Op.equal, Op.maxDepth, eqOwner w 9999 a b h]
end Go.Proofs.Qxb6601392a.Bt
