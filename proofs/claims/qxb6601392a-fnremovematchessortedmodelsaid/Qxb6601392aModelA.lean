import Derived.Test.Qxb6601392aFind
import Derived.Deep.DeepCutAuto
namespace Go.Proofs.Qxb6601392a.Bt
open Go.RowKit

/-! ### the model: two slices side by side -/
def kcells (L : List It) : List Value := L.map fun x => .string x.k
def ecells (L : List It) : List Value := L.flatMap fun x => [.string x.v, .int .u64 x.r]
abbrev OwnK (w : World) (v : Value) (L : List It) : Prop := Own 9 1 w v L.length (kcells L)
abbrev OwnE (w : World) (v : Value) (L : List It) : Prop := Own 64 2 w v L.length (ecells L)
theorem ecells_cons (x : It) (L : List It) : ecells (x :: L) = [.string x.v, .int .u64 x.r] ++ ecells L := rfl
theorem ecells_append (L M : List It) : ecells (L ++ M) = ecells L ++ ecells M := by simp [ecells]
theorem kcells_append (L M : List It) : kcells (L ++ M) = kcells L ++ kcells M := by simp [kcells]
theorem ecells_len (L : List It) : (ecells L).length = L.length * 2 := by
  induction L with
  | nil => rfl
  | cons x L ih => rw [ecells_cons, List.length_append, ih, List.length_cons]; simp; omega
theorem kcells_len (L : List It) : (kcells L).length = L.length := by simp [kcells]
theorem ecells_drop (L : List It) (i : Nat) : (ecells L).drop (i * 2) = ecells (L.drop i) := by
  induction L generalizing i with
  | nil => simp [ecells]
  | cons x L ih =>
    cases i with
    | zero => simp
    | succ i =>
      rw [List.drop_succ_cons, ecells_cons, ← ih i, show (i + 1) * 2 = i * 2 + 2 by omega]
      simp
theorem ecells_get (L : List It) (i j : Nat) (x : It) (hx : L[i]? = some x) (hj : j < 2) : (ecells L)[i * 2 + j]? = [Value.string x.v, .int .u64 x.r][j]? := by
  have h : (ecells L).drop (i * 2) = [.string x.v, .int .u64 x.r] ++ ecells (L.drop (i + 1)) := by
    rw [ecells_drop, List.drop_eq_getElem?_toList_append, hx]; rfl
  rw [← List.getElem?_drop, h, List.getElem?_append_left (by simp; exact hj)]
theorem kcells_one (L : List It) : ∀ u ∈ kcells L, u.oneCell' = true := by
  intro u hu
  obtain ⟨x, _, rfl⟩ := List.mem_map.1 hu
  rfl
theorem ecells_one (L : List It) : ∀ u ∈ ecells L, u.oneCell' = true := by
  intro u hu
  simp only [ecells, List.mem_flatMap] at hu
  obtain ⟨x, _, hu⟩ := hu
  simp only [List.mem_cons, List.not_mem_nil, or_false] at hu
  rcases hu with rfl | rfl <;> rfl
theorem idx30 (g n cap k : Nat) (hk : k < n) (W : World) : (Instr.indexAt 30 (.slice (some ⟨g, 0, none⟩) n cap) (.int .i64 (k : Int))).run Try.prog W = .ok (.pointer (some ⟨g, k, none⟩)) W := by
  rw [run_indexAt_slice W 30 _ n cap .i64 k T30.ht', if_pos (by omega), T30.elem, T30.hs]
  simp [Result.andThen, Addr.add]
  exact fun h => h.symm
theorem idx31 (g n cap k : Nat) (hk : k < n) (W : World) : (Instr.indexAt 31 (.slice (some ⟨g, 0, none⟩) n cap) (.int .i64 (k : Int))).run Try.prog W = .ok (.pointer (some ⟨g, k * 2, none⟩)) W := by
  rw [run_indexAt_slice W 31 _ n cap .i64 k T31.ht', if_pos (by omega), T31.elem, T31.hs]
  simp [Result.andThen, Addr.add]
  exact fun h => h.symm
theorem OwnK.at {w : World} {v : Value} {L : List It} (h : OwnK w v L) {k : Nat} {x : It} (hx : L[k]? = some x) :
    ∃ g cap, v = .slice (some ⟨g, 0, none⟩) L.length cap ∧ w.cell? ⟨g, k, none⟩ = some (.string x.k) ∧ (∀ j, w.frozen? ⟨g, j, none⟩ = false) ∧ L.length ≤ cap ∧ cap ≤ maxLen := by
  have hk : k < L.length := (List.getElem?_eq_some_iff.1 hx).1
  obtain ⟨hl, hc⟩ := h
  rcases hc with ⟨rfl, h0⟩ | ⟨g, cap, cur, rfl, h0, hg, h1, h2, h3, h4⟩
  · omega
  · refine ⟨g, cap, rfl, ?_, fun j => by simp [World.frozen?, hg], h1, h2⟩
    have e : (kcells L)[k]? = some (.string x.k) := by rw [kcells, List.getElem?_map, hx]; rfl
    rw [← h4, List.getElem?_take_of_lt (by omega)] at e
    simp only [World.cell?, hg]
    simpa using e
theorem OwnE.at {w : World} {v : Value} {L : List It} (h : OwnE w v L) {k : Nat} {x : It} (hx : L[k]? = some x) :
    ∃ g cap, v = .slice (some ⟨g, 0, none⟩) L.length cap ∧ w.cell? ⟨g, k * 2, none⟩ = some (.string x.v) ∧ w.cell? ⟨g, k * 2 + 1, none⟩ = some (.int .u64 x.r) ∧ (∀ j, w.frozen? ⟨g, j, none⟩ = false) ∧ L.length ≤ cap ∧ cap ≤ maxLen := by
  have hk : k < L.length := (List.getElem?_eq_some_iff.1 hx).1
  obtain ⟨hl, hc⟩ := h
  rcases hc with ⟨rfl, h0⟩ | ⟨g, cap, cur, rfl, h0, hg, h1, h2, h3, h4⟩
  · omega
  · have key : ∀ j, j < 2 → w.cell? ⟨g, k * 2 + j, none⟩ = [Value.string x.v, .int .u64 x.r][j]? := by
      intro j hj
      rw [← ecells_get L k j x hx hj, ← h4, List.getElem?_take_of_lt (by omega)]
      simp [World.cell?, hg]
    exact ⟨g, cap, rfl, key 0 (by omega), key 1 (by omega), fun j => by simp [World.frozen?, hg], h1, h2⟩

theorem Own.put1 {e : TypeId} {z n g cap : Nat} {w : World} {xs : List Value} (h : Own e z w (.slice (some ⟨g, 0, none⟩) n cap) n xs) (j : Nat) (u : Value) : Own e z (w.setCell ⟨g, j, none⟩ u) (.slice (some ⟨g, 0, none⟩) n cap) n (xs.set j u) := by
  obtain ⟨hl, hc⟩ := h
  rcases hc with ⟨e, _⟩ | ⟨g', cap', cur, e, h0, hg, hnc, hcm, h3, h4⟩
  · cases e
  · cases e
    refine ⟨by rw [List.length_set]; exact hl, .inr ⟨g, cap, cur.setIfInBounds j u, rfl, h0, heap_setCell_same w g j cur _ u hg, hnc, hcm, by rw [Array.size_setIfInBounds]; exact h3, ?_⟩⟩
    rw [Array.toList_setIfInBounds, ← h4]
    rw [List.take_set]
theorem kcells_set (L : List It) (i : Nat) (x : It) : kcells (L.set i x) = (kcells L).set i (.string x.k) := by
  unfold kcells; rw [List.map_set]
theorem ecells_set (L : List It) (i : Nat) (x : It) : ecells (L.set i x) = ((ecells L).set (i * 2) (.string x.v)).set (i * 2 + 1) (.int .u64 x.r) := by
  induction L generalizing i with
  | nil => simp [ecells]
  | cons a I ih =>
    cases i with
    | zero => simp [ecells_cons]
    | succ i =>
      rw [List.set_cons_succ, ecells_cons, ecells_cons, ih i]
      have e1 : (i + 1) * 2 = i * 2 + 2 := by omega
      have e2 : (i + 1) * 2 + 1 = (i * 2 + 1) + 2 := by omega
      rw [e2, e1]
      simp
theorem OwnK.put {g cap : Nat} {w : World} {L : List It} (h : OwnK w (.slice (some ⟨g, 0, none⟩) L.length cap) L) (i : Nat) (x : It) : OwnK (w.setCell ⟨g, i, none⟩ (.string x.k)) (.slice (some ⟨g, 0, none⟩) L.length cap) (L.set i x) := by
  have := Own.put1 h i (.string x.k)
  rw [← kcells_set] at this
  unfold OwnK; rw [List.length_set]; exact this
theorem OwnE.put {g cap : Nat} {w : World} {L : List It} (h : OwnE w (.slice (some ⟨g, 0, none⟩) L.length cap) L) (i : Nat) (x : It) : OwnE ((w.setCell ⟨g, i * 2, none⟩ (.string x.v)).setCell ⟨g, i * 2 + 1, none⟩ (.int .u64 x.r)) (.slice (some ⟨g, 0, none⟩) L.length cap) (L.set i x) := by
  have := Own.put1 (Own.put1 h (i * 2) (.string x.v)) (i * 2 + 1) (.int .u64 x.r)
  rw [← ecells_set] at this
  unfold OwnE; rw [List.length_set]; exact this

structure Model (w : World) (kv ev : Value) (L : List It) : Prop where
  k : OwnK w kv L
  e : OwnE w ev L
  d : ∀ b, kv.ownBlock = some b → ev.ownBlock ≠ some b
theorem Model.of_block {w w' : World} {kv ev : Value} {L : List It} (h : Model w kv ev L) (hb : ∀ b, (kv.ownBlock = some b ∨ ev.ownBlock = some b) → w'.heap[b]? = w.heap[b]?) : Model w' kv ev L :=
  ⟨h.k.of_block (fun b hb' => hb b (.inl hb')), h.e.of_block (fun b hb' => hb b (.inr hb')), h.d⟩
theorem Model.keeps {w w' : World} {kv ev : Value} {L : List It} {S : Nat → Prop} (h : Model w kv ev L) (hk : Keeps S w w') (hS : ∀ b, (kv.ownBlock = some b ∨ ev.ownBlock = some b) → ¬ S b) : Model w' kv ev L :=
  h.of_block (fun b hb => hk.block b (hb.elim (h.k.blk b) (h.e.blk b)) (hS b hb))
theorem model_nil (w : World) : Model w (.slice none 0 0) (.slice none 0 0) [] := ⟨⟨rfl, .inl ⟨rfl, rfl⟩⟩, ⟨rfl, .inl ⟨rfl, rfl⟩⟩, fun b h => by cases h⟩

theorem bytes_inj {a b : ByteArray} (h : a.data.toList = b.data.toList) : a = b := by
  have : a.data = b.data := Array.toList_inj.1 h
  cases a; cases b; cases this; rfl

theorem beq_yes {a b : ByteArray} (h : a = b) : (a.toList == b.toList) = true := by subst h; simp
theorem beq_no {a b : ByteArray} (h : ¬ a = b) : (a.toList == b.toList) = false := by
  rw [beq_eq_false_iff_ne]
  intro e
  rw [ByteArray.toList_eq, ByteArray.toList_eq] at e
  exact h (bytes_inj e)
theorem hide' {p : Prop} (h : p) : Hid p := h

/-! ### where the model holds a key -/
set_option maxRecDepth 100000 in
set_option maxHeartbeats 400000 in
theorem modelIndex_any (w : World) (v : Value) (L : List It) (h : OwnK w v L) (hs : Sorted L) (hn : L.length ≤ 100000) (k : ByteArray) (i : Nat) (f : Bool) (hP : Pos L k.data.toList i f) (r : Int) (hr : r = if f then (i : Int) else -1) :
    Calls Try.prog 31 #[v, .string k] w fun e w' => e = .returned (.int .i64 r) ∧ w' = w := by
  have HR := hide' hr
  clear hr
  obtain ⟨A, cap, rfl, hcap, hcm⟩ := h.form
  have hn' : (L.length : Int) ≤ 100000 := by omega
  have HO : Hid (OwnK w (.slice A L.length cap) L) := h
  have HP : Hid (Pos L k.data.toList i f) := hP
  have HS : Hid (Sorted L) := hs
  clear h hP hs
  go_enter Try.func31, Try.ntmps31
  go_wp2_with fail
  go_loopw [5] (fun a w' => ∃ j : Nat, j ≤ L.length ∧ a = .int .i64 j ∧ (∀ q x, L[q]? = some x → q < j → x.k ≠ k) ∧ w' = w) (fun a w' => L.length - (intOf a).toNat)
  case atStart => exact ⟨0, by omega, rfl, fun q x hx hq => by omega, rfl⟩
  case round =>
    obtain ⟨j, hjn, rfl, hne, rfl⟩ := hrel
    have HNE := hide' hne
    clear hne
    by_cases hlt : j < L.length
    · have hlt' : (j : Int) < (L.length : Int) := by omega
      obtain ⟨x, hx⟩ : ∃ x, L[j]? = some x := ⟨_, List.getElem?_eq_getElem hlt⟩
      obtain ⟨g, cap', hv', c0, _, _, _⟩ := HO.out.at hx
      injection hv' with hA1 _ hA2
      subst hA1 hA2
      have HX : Hid (L[j]? = some x) := hx
      have x30 := fun W => idx30 g L.length cap j hlt W
      clear hx
      by_cases he : x.k = k
      · have HE : Hid (x.k = k) := he
        have he' := beq_yes he
        clear he
        go_wp2_with fail
        go_ret
        have hf : f = true ∧ j = i := by
          have hlt := HP.out.lt j x HX.out
          have hkk : x.key = k.data.toList := by unfold It.key; rw [HE.out]
          have hji : j = i := by
            rcases Nat.lt_or_ge j i with hl | hl
            · have := hlt hl; rw [hkk, klt_irrefl] at this; cases this
            · rcases Nat.lt_or_ge i j with hl2 | hl2
              · exfalso
                obtain ⟨y, hy⟩ : ∃ y, L[i]? = some y := ⟨_, List.getElem?_eq_getElem (by omega)⟩
                have h1 := HP.out.ge i y hy (Nat.le_refl _)
                have h2 := HS.out.get hy HX.out hl2
                rw [hkk, h1] at h2; cases h2
              · omega
          exact ⟨HP.out.found.2 ⟨x, by rw [← hji]; exact HX.out, hkk⟩, hji⟩
        obtain ⟨rfl, rfl⟩ := hf
        exact ⟨by rw [HR.out]; rfl, rfl⟩
      · have HE : Hid (¬ x.k = k) := he
        have he' := beq_no he
        clear he
        go_wp2_with fail
        go_roundw
        case rel =>
          refine ⟨j + 1, by omega, by go_num, fun q y hy hq => ?_, by trivial⟩
          rcases Nat.lt_or_ge q j with hl | hl
          · exact HNE.out q y hy hl
          · obtain rfl : q = j := by omega
            have := HX.out.symm.trans hy
            cases this
            exact HE.out
        case measure => simp [intOf]; omega
    · have hd : decide ((j : Int) < (L.length : Int)) = false := decide_eq_false (by omega)
      go_wp2_with fail
      go_ret
      have hf : f = false := by
        cases hff : f with
        | false => rfl
        | true =>
          obtain ⟨y, hy, hk⟩ := HP.out.found.1 hff
          exact absurd (bytes_inj hk) (HNE.out i y hy (by have := (List.getElem?_eq_some_iff.1 hy).1; omega))
      subst hf
      exact ⟨by rw [HR.out]; rfl, rfl⟩
end Go.Proofs.Qxb6601392a.Bt
