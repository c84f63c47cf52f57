import Derived.Test.Qxb6601392aPutH
import Derived.Test.Qxb6601392aModelB
namespace Go.Proofs.Qxb6601392a.Bt
open Go.RowKit

set_option maxHeartbeats 400000 in
theorem piecesCell_any {w : World} {b p : Nat} (h3 : w.cell? ⟨b, 3, none⟩ = some (.int .i64 (p : Int))) : Calls Try.prog 46 #[.pointer (some ⟨b, 0, none⟩)] w fun e w' => e = .returned (.int .i64 (p : Int)) ∧ w' = w := by
  go_enter Try.func46, Try.ntmps46
  go_wp2
  go_ret
  exact ⟨rfl, rfl⟩

/-! ### the wrappers -/
set_option maxHeartbeats 400000 in
theorem wrap_mutable (a b : Value) (w : World) (R : Value → World → Prop) (h : Calls Try.prog 37 #[a, b] w fun e w' => ∃ v, e = .returned v ∧ R v w') :
    Calls Try.prog 19 #[a, b] w fun e w' => ∃ v, e = .returned v ∧ R v w' := by
  have H := hide h
  clear h
  go_enter Try.func19, Try.ntmps19
  go_wp2_with fail
  refine H.out.mono ?_
  rintro e w' ⟨v, rfl, hv⟩
  have HV := hide hv
  clear hv
  go_wp2_with fail
  go_ret
  exact ⟨_, rfl, HV.out⟩
set_option maxHeartbeats 400000 in
theorem wrap_split (a b : Value) (w : World) (R : It → Nat → World → Prop) (h : ∀ w1, Below w.heap.size w w1 → w.heap.size < w1.heap.size → Calls Try.prog 57 #[a, b] w1 fun e w' => ∃ (mid : It) (r : Nat), e = .returned (.tuple #[mid.val, .pointer (some ⟨r, 0, none⟩)]) ∧ R mid r w' ∧ w'.heap[w.heap.size]? = w1.heap[w.heap.size]?)
    (hR : ∀ mid r w' w'', R mid r w' → Keeps (fun x => x = w.heap.size) w' w'' → R mid r w'') :
    Calls Try.prog 45 #[a, b] w fun e w' => ∃ (mid : It) (r : Nat), e = .returned (.tuple #[mid.val, .pointer (some ⟨r, 0, none⟩)]) ∧ R mid r w' := by
  have H := hide h
  have HR := hide hR
  clear h hR
  go_enter Try.func45, Try.ntmps45
  go_wp2_with fail
  refine (H.out _ ((Below.refl _ _).alloc (Nat.le_refl _) _) (by simp)).mono ?_
  rintro e w' ⟨mid, r, rfl, hv, hb⟩
  have HV := hide hv
  have hb' := hb.trans (heap_alloc_new _ _)
  have c0 : w'.cell? ⟨w.heap.size, 0, none⟩ = some (.string ⟨#[]⟩) := by simp [World.cell?, hb']
  have c1 : w'.cell? ⟨w.heap.size, 1, none⟩ = some (.string ⟨#[]⟩) := by simp [World.cell?, hb']
  have c2 : w'.cell? ⟨w.heap.size, 2, none⟩ = some (.int .u64 0) := by simp [World.cell?, hb']
  have fr : ∀ j, w'.frozen? ⟨w.heap.size, j, none⟩ = false := fun j => by simp [World.frozen?, hb']
  clear hv hb hb'
  unfold It.val
  go_wp2_with fail
  refine bodyPost_ret (v := .tuple #[.agg #[.string mid.k, .string mid.v, .int .u64 mid.r], .pointer (some ⟨r, 0, none⟩)]) ?_ rfl ⟨mid, r, rfl, HR.out mid r w' _ HV.out ?_⟩
  · simp [results, Try.results45, go_sem, c0, c1, c2]
  · exact (((Keeps.refl (fun x => x = w.heap.size) w').setCell (p := ⟨w.heap.size, 0, none⟩) (.inl rfl) _).setCell (p := ⟨w.heap.size, 1, none⟩) (.inl rfl) _).setCell (p := ⟨w.heap.size, 2, none⟩) (.inl rfl) _
set_option maxHeartbeats 400000 in
theorem wrap_put (a o : Value) (x : It) (w : World) (R : Int → Bool → World → Prop) (h : ∀ w1, Below w.heap.size w w1 → Calls Try.prog 58 #[a, .string x.k, .agg #[.string x.v, .int .u64 x.r], o] w1 fun e w' => ∃ gr hd, e = .returned (.tuple #[.int .i64 gr, .bool hd]) ∧ R gr hd w') :
    Calls Try.prog 47 #[a, .string x.k, .agg #[.string x.v, .int .u64 x.r], o] w fun e w' => ∃ gr hd, e = .returned (.tuple #[.int .i64 gr, .bool hd]) ∧ R gr hd w' := by
  have H := hide h
  clear h
  go_enter Try.func47, Try.ntmps47
  go_wp2_with fail
  refine (H.out _ ((Below.refl _ _).alloc (Nat.le_refl _) _)).mono ?_
  rintro e w' ⟨gr, hd, rfl, hv⟩
  have HV := hide hv
  clear hv
  go_wp2_with fail
  go_ret2
  exact ⟨_, _, rfl, HV.out⟩
end Go.Proofs.Qxb6601392a.Bt
