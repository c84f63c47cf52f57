import Derived.Test.Qxb6601392aGrowB
import Derived.Test.Qxb6601392aGrowC
namespace Go.Proofs.Qxb6601392a.Bt
open Go.RowKit

/-- two children become one -/
structure Merged (w2 w' : World) (b o p g gc lb' pl' i2 i3 : Nat) (ivl cvl ivl' cvl' iv' cv' : Value) (Il' I : List It) (bsl' bs : List Nat) : Prop where
  ln : NodeAt w' lb' o ivl' cvl' pl'
  li : OwnI w' ivl' Il'
  lc : OwnC w' cvl' bsl'
  lib : ∀ k, ivl'.ownBlock = some k → (ivl.ownBlock = some k ∨ w2.heap.size ≤ k) ∧ k ≠ lb'
  lcb : ∀ k, cvl'.ownBlock = some k → (cvl.ownBlock = some k ∨ w2.heap.size ≤ k) ∧ k ≠ lb'
  lic : ∀ k, cvl'.ownBlock = some k → ivl'.ownBlock ≠ some k
  n : NodeAt w' b o iv' cv' p
  i : OwnI w' iv' (I.take i2 ++ I.drop (i2 + 1))
  c : OwnC w' cv' ((bs.take i3 ++ bs.drop (i3 + 1)).set i2 lb')
  iown : ∀ k, iv'.ownBlock = some k → k = g
  cown : ∀ k, cv'.ownBlock = some k → k = gc
  keep : Keeps (fun k => k = b ∨ k = g ∨ k = gc ∨ k = lb' ∨ ivl.ownBlock = some k ∨ cvl.ownBlock = some k) w2 w'

theorem Tri.way {w : World} {b o p g cap gc cc : Nat} {I : List It} {bs : List Nat} (h : Tri w b o p g cap gc cc I bs) : Way w w b o (.slice (some ⟨g, 0, none⟩) I.length cap) (.slice (some ⟨gc, 0, none⟩) bs.length cc) (.slice (some ⟨g, 0, none⟩) I.length cap) (.slice (some ⟨gc, 0, none⟩) bs.length cc) p I bs :=
  ⟨h.n, h.i, h.c, Keeps.refl _ _, fun k hk => ⟨.inl hk, fun e => h.gb (by simp [Value.ownBlock] at hk; omega)⟩, fun k hk => ⟨.inl hk, fun e => h.gcb (by simp [Value.ownBlock] at hk; omega)⟩, fun k hk hk' => h.gg (by simp [Value.ownBlock] at hk hk'; omega)⟩

end Go.Proofs.Qxb6601392a.Bt
