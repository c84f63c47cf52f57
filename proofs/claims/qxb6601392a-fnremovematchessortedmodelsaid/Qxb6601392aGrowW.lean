import Derived.Test.Qxb6601392aGrowV
namespace Go.Proofs.Qxb6601392a.Bt
open Go.RowKit

theorem pair_split {α : Type} {l : List α} {j : Nat} {a b : α} (ha : l[j]? = some a) (hb : l[j + 1]? = some b) : ∃ A C, l = A ++ [a, b] ++ C ∧ A.length = j := by
  have h1 := (List.getElem?_eq_some_iff.1 hb).1
  refine ⟨l.take j, l.drop (j + 2), ?_, by rw [List.length_take]; omega⟩
  have e1 := List.take_append_drop j l
  have e2 : l.drop j = a :: l.drop (j + 1) := by
    rw [List.drop_eq_getElem_cons (by omega)]
    congr 1
    rw [List.getElem?_eq_getElem (by omega)] at ha
    exact Option.some.inj ha
  have e3 : l.drop (j + 1) = b :: l.drop (j + 2) := by
    rw [List.drop_eq_getElem_cons (by omega)]
    congr 1
    rw [List.getElem?_eq_getElem (by omega)] at hb
    exact Option.some.inj hb
  rw [e2, e3] at e1
  rw [List.append_assoc]
  exact e1.symm

/-- grow: the child at i gets an item more, or two children become one -/
theorem grow_any {w : World} {o B d : Nat} {c : Ch} {iv cv : Value} {I : List It} {ks : List Ch} {k : Ch} (H : NodeO w o B d c iv cv I ks) (hB : B ≤ w.heap.size) (ho : OwnerAt w o) (hs : Sorted c.L) (hok : ∀ y ∈ c.L, y.ok) (hlen : c.L.length ≤ 1000000000) (hI : I.length ≤ 63) (hI1 : 1 ≤ I.length) (i : Nat) (hk : ks[i]? = some k) (hkm : k.m ≤ 31) :
    Calls Try.prog 44 #[.pointer (some ⟨c.b, 0, none⟩), .int .i64 (i : Int), .pointer (some ⟨o, 0, none⟩)] w fun e w' => e = .returned (.tuple #[]) ∧ Grown w w' o B d c I i := by
  have hil := (List.getElem?_eq_some_iff.1 hk).1
  have hlen2 := H.len
  -- the right neighbour
  have right : (∀ j l, i = j + 1 → ks[j]? = some l → l.m ≤ 31) → i < I.length → Calls Try.prog 44 #[.pointer (some ⟨c.b, 0, none⟩), .int .i64 (i : Int), .pointer (some ⟨o, 0, none⟩)] w fun e w' => e = .returned (.tuple #[]) ∧ Grown w w' o B d c I i := by
    intro hleft hiI
    obtain ⟨r, hr⟩ : ∃ r, ks[i + 1]? = some r := ⟨_, List.getElem?_eq_getElem (by omega)⟩
    obtain ⟨A, C, rfl, hA⟩ := pair_split hk hr
    have hq : ∀ q ∈ A.getLast?, q.m ≤ 31 := by
      intro q hq
      have hq' : A.getLast? = some q := hq
      have hAe : A ≠ [] := by rintro rfl; simp at hq'
      have hl : 0 < A.length := List.length_pos_iff.2 hAe
      rw [List.getLast?_eq_getElem?] at hq'
      refine hleft (i - 1) q (by omega) ?_
      rw [List.append_assoc, List.getElem?_append_left (by omega), ← hA]
      exact hq'
    by_cases hrm : 32 ≤ r.m
    · exact grow2_any H hB ho hs hok hlen hI hrm hkm hq i (i + 1) hA rfl
    · exact grow3_any H hB ho hs hok hlen hI hkm (by omega) i i (i + 1) hA rfl (.inl ⟨rfl, hq⟩)
  cases i with
  | zero => exact right (fun j l h => by omega) (by omega)
  | succ j =>
    obtain ⟨l, hl⟩ : ∃ l, ks[j]? = some l := ⟨_, List.getElem?_eq_getElem (by omega)⟩
    by_cases hlm : 32 ≤ l.m
    · obtain ⟨A, C, rfl, hA⟩ := pair_split hl hk
      exact grow1_any H hB ho hs hok hlen hI hlm hkm (j + 1) j hA rfl
    · by_cases hiI : j + 1 < I.length
      · refine right (fun j' l' h h' => ?_) hiI
        obtain rfl : j' = j := by omega
        rw [hl] at h'
        cases h'
        omega
      · obtain ⟨A, C, rfl, hA⟩ := pair_split hl hk
        exact grow3_any H hB ho hs hok hlen hI (by omega) hkm (j + 1) j (j + 1) hA rfl (.inr ⟨rfl, by omega⟩)
end Go.Proofs.Qxb6601392a.Bt
