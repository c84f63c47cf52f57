import Derived.Test.Qxb6601392aRow
import Derived.Test.Qxb6601392aPlain
namespace Go.Proofs.Qxb6601392a.Bt
open Go.RowKit

def icells (L : List It) : List Value := L.flatMap It.cells
theorem icells_nil : icells [] = [] := rfl
theorem icells_cons (x : It) (L : List It) : icells (x :: L) = x.cells ++ icells L := rfl
theorem icells_append (L M : List It) : icells (L ++ M) = icells L ++ icells M := by simp [icells]
theorem icells_len (L : List It) : (icells L).length = L.length * 3 := by
  induction L with
  | nil => rfl
  | cons x L ih => rw [icells_cons, List.length_append, ih, List.length_cons]; simp [It.cells]; omega
theorem icells_take (L : List It) (i : Nat) : (icells L).take (i * 3) = icells (L.take i) := by
  induction L generalizing i with
  | nil => simp [icells]
  | cons x L ih =>
    cases i with
    | zero => simp [icells]
    | succ i =>
      rw [List.take_succ_cons, icells_cons, icells_cons, ← ih i, show (i + 1) * 3 = i * 3 + 3 by omega]
      simp [It.cells]
theorem icells_drop (L : List It) (i : Nat) : (icells L).drop (i * 3) = icells (L.drop i) := by
  induction L generalizing i with
  | nil => simp [icells]
  | cons x L ih =>
    cases i with
    | zero => simp
    | succ i =>
      rw [List.drop_succ_cons, icells_cons, ← ih i, show (i + 1) * 3 = i * 3 + 3 by omega]
      simp [It.cells]
theorem icells_get (L : List It) (i j : Nat) (x : It) (hx : L[i]? = some x) (hj : j < 3) : (icells L)[i * 3 + j]? = x.cells[j]? := by
  have h : (icells L).drop (i * 3) = x.cells ++ icells (L.drop (i + 1)) := by
    rw [icells_drop, List.drop_eq_getElem?_toList_append, hx]; rfl
  rw [← List.getElem?_drop, h, List.getElem?_append_left (by simp [It.cells]; exact hj)]
theorem icells_one (L : List It) : ∀ u ∈ icells L, u.oneCell' = true := by
  intro u hu
  simp only [icells, List.mem_flatMap] at hu
  obtain ⟨x, _, hu⟩ := hu
  simp only [It.cells, List.mem_cons, List.not_mem_nil, or_false] at hu
  rcases hu with rfl | rfl | rfl <;> rfl

/-- an items slice -/
abbrev OwnI (w : World) (v : Value) (L : List It) : Prop := Own 75 3 w v L.length (icells L)

theorem idx59 (g n cap k : Nat) (hk : k < n) (W : World) : (Instr.indexAt 59 (.slice (some ⟨g, 0, none⟩) n cap) (.int .i64 (k : Int))).run Try.prog W = .ok (.pointer (some ⟨g, k * 3, none⟩)) W := by
  rw [run_indexAt_slice W 59 _ n cap .i64 k T59.ht', if_pos (by omega), T59.elem, T59.hs]
  simp [Result.andThen, Addr.add]
  exact fun h => h.symm
theorem idx60 (g n cap k : Nat) (hk : k < n) (W : World) : (Instr.indexAt 60 (.slice (some ⟨g, 0, none⟩) n cap) (.int .i64 (k : Int))).run Try.prog W = .ok (.pointer (some ⟨g, k, none⟩)) W := by
  rw [run_indexAt_slice W 60 _ n cap .i64 k T60.ht', if_pos (by omega), T60.elem, T60.hs]
  simp [Result.andThen, Addr.add]
  exact fun h => h.symm

/-- item k of an items slice, cell by cell -/
theorem OwnI.at {w : World} {v : Value} {L : List It} (h : OwnI w v L) {k : Nat} {x : It} (hx : L[k]? = some x) :
    ∃ g cap, v = .slice (some ⟨g, 0, none⟩) L.length cap ∧ w.cell? ⟨g, k * 3, none⟩ = some (.string x.k) ∧ w.cell? ⟨g, k * 3 + 1, none⟩ = some (.string x.v) ∧ w.cell? ⟨g, k * 3 + 2, none⟩ = some (.int .u64 x.r) ∧ (∀ j, w.frozen? ⟨g, j, none⟩ = false) ∧ L.length ≤ cap ∧ cap ≤ maxLen := by
  have hk : k < L.length := (List.getElem?_eq_some_iff.1 hx).1
  obtain ⟨hl, hc⟩ := h
  rcases hc with ⟨rfl, h0⟩ | ⟨g, cap, cur, rfl, h0, hg, h1, h2, h3, h4⟩
  · omega
  · have key : ∀ j, j < 3 → w.cell? ⟨g, k * 3 + j, none⟩ = x.cells[j]? := by
      intro j hj
      rw [← icells_get L k j x hx hj, ← h4, List.getElem?_take_of_lt (by omega)]
      simp [World.cell?, hg]
    refine ⟨g, cap, rfl, key 0 (by omega), key 1 (by omega), key 2 (by omega), fun j => by simp [World.frozen?, hg], h1, h2⟩

/-- where key k stands among L -/
structure Pos (L : List It) (k : Key) (i : Nat) (found : Bool) : Prop where
  le : i ≤ L.length
  lt : ∀ j x, L[j]? = some x → j < i → klt x.key k = true
  ge : ∀ j x, L[j]? = some x → i ≤ j → klt x.key k = false
  found : found = true ↔ ∃ x, L[i]? = some x ∧ x.key = k

theorem bcell {W w1 : World} (hb : Below W.heap.size W w1) {a : Addr} {v : Value} (h : W.cell? a = some v) : w1.cell? a = some v := (hb.cell (cell_lt h)).trans h

set_option maxRecDepth 100000 in
set_option maxHeartbeats 400000 in
theorem bsearch_any (w : World) (v : Value) (L : List It) (h : OwnI w v L) (hs : Sorted L) (hn : L.length ≤ 100000) (k : ByteArray) :
    Calls Try.prog 62 #[v, .string k, .func (.func 63) #[] #[]] w fun e w' => ∃ (i : Nat) (found : Bool), e = .returned (.tuple #[.int .i64 (i : Int), .bool found]) ∧ Pos L k.data.toList i found ∧ Below w.heap.size w w' := by
  obtain ⟨A, cap, hv, hcap, hcm⟩ := h.form
  have hn' : (L.length : Int) ≤ 100000 := by omega
  have HO : Hid (OwnI w v L) := h
  have HSO : Hid (Sorted L) := hs
  clear h hs
  have HV : Hid (v = .slice A L.length cap) := hv
  rw [hv]
  clear hv
  go_enter Try.func62, Try.ntmps62
  go_wp2_with fail
  go_loopw [9, 10] (fun a b w' => ∃ i j : Nat, i ≤ j ∧ j ≤ L.length ∧ a = .int .i64 i ∧ b = .int .i64 j ∧ (∀ q x, L[q]? = some x → q < i → klt x.key k.data.toList = true) ∧ (∀ q x, L[q]? = some x → j ≤ q → klt x.key k.data.toList = false) ∧ Below w.heap.size w w') (fun a b w' => (intOf b).toNat - (intOf a).toNat)
  case atStart => exact ⟨0, L.length, by omega, by omega, rfl, rfl, fun q x hx hq => by omega, fun q x hx hq => by have := (List.getElem?_eq_some_iff.1 hx).1; omega, Below.refl _ _⟩
  case round =>
    obtain ⟨i, j, hij, hjn, rfl, rfl, hlo, hhi, hb⟩ := hrel
    have HLO : Hid (∀ q x, L[q]? = some x → q < i → klt x.key k.data.toList = true) := hlo
    have HHI : Hid (∀ q x, L[q]? = some x → j ≤ q → klt x.key k.data.toList = false) := hhi
    have HB : Hid (Below w.heap.size w wr) := hb
    clear hlo hhi hb
    by_cases hlt : i < j
    · have hlt' : (i : Int) < (j : Int) := by omega
      have hjn' : (j : Int) ≤ (L.length : Int) := by omega
      have hmL : (i + j) / 2 < L.length := by omega
      obtain ⟨x, hx⟩ : ∃ x, L[(i + j) / 2]? = some x := ⟨_, List.getElem?_eq_getElem hmL⟩
      obtain ⟨g, cap', hv', c0, c1, c2, _, _, _⟩ := HO.out.at hx
      have hA : Value.slice A L.length cap = .slice (some ⟨g, 0, none⟩) L.length cap' := HV.out.symm.trans hv'
      have c0 := bcell HB.out c0
      have c1 := bcell HB.out c1
      have c2 := bcell HB.out c2
      injection hA with hA1 _ hA2
      subst hA1 hA2
      have HX : Hid (L[(i + j) / 2]? = some x) := hx
      have hcb := cmp_bounds x.key k.data.toList
      have HKL : Hid (klt x.key k.data.toList = decide (cmp x.key k.data.toList < 0)) := rfl
      clear hx hv'
      go_wp2_with fail
      refine (find1_any x k _).mono ?_
      rintro e w3 ⟨rfl, hb3⟩
      have HB3 : Hid (Below w.heap.size w w3) := HB.out.trans (hb3.mono HB.out.size)
      clear hb3
      by_cases hc : cmp x.key k.data.toList < 0
      · have HK : Hid (klt x.key k.data.toList = true) := by show _ = _; rw [HKL.out]; exact decide_eq_true hc
        go_wp2_with fail
        go_roundw
        case rel =>
          refine ⟨(i + j) / 2 + 1, j, by omega, by omega, by go_num, rfl, fun q y hy hq => ?_, HHI.out, HB3.out⟩
          by_cases hqm : q = (i + j) / 2
          · subst hqm
            have := HX.out.symm.trans hy
            cases this
            exact HK.out
          · exact klt_trans (HSO.out.get hy HX.out (by omega)) HK.out
        case measure => simp [intOf]; omega
      · have HK : Hid (klt x.key k.data.toList = false) := by show _ = _; rw [HKL.out]; exact decide_eq_false hc
        go_wp2_with fail
        go_roundw
        case rel =>
          refine ⟨i, (i + j) / 2, by omega, by omega, rfl, by go_num, HLO.out, fun q y hy hq => ?_, HB3.out⟩
          by_cases hqm : q = (i + j) / 2
          · subst hqm
            have := HX.out.symm.trans hy
            cases this
            exact HK.out
          · cases hky : klt y.key k.data.toList with
            | false => rfl
            | true =>
              have := klt_trans (HSO.out.get HX.out hy (by omega)) hky
              rw [HK.out] at this; cases this
        case measure => simp [intOf]; omega
    · obtain rfl : i = j := by omega
      by_cases hiL : i < L.length
      · have hiL' : (i : Int) < (L.length : Int) := by omega
        obtain ⟨x, hx⟩ : ∃ x, L[i]? = some x := ⟨_, List.getElem?_eq_getElem hiL⟩
        obtain ⟨g, cap', hv', c0, c1, c2, _, _, _⟩ := HO.out.at hx
        have hA : Value.slice A L.length cap = .slice (some ⟨g, 0, none⟩) L.length cap' := HV.out.symm.trans hv'
        have c0 := bcell HB.out c0
        have c1 := bcell HB.out c1
        have c2 := bcell HB.out c2
        injection hA with hA1 _ hA2
        subst hA1 hA2
        have HX : Hid (L[i]? = some x) := hx
        have hcb := cmp_bounds x.key k.data.toList
        clear hx hv'
        go_wp2_with fail
        refine (find1_any x k _).mono ?_
        rintro e w3 ⟨rfl, hb3⟩
        have HB3 : Hid (Below w.heap.size w w3) := HB.out.trans (hb3.mono HB.out.size)
        clear hb3
        go_wp2_with fail
        go_ret2
        refine ⟨i, (cmp x.key k.data.toList == 0), rfl, ⟨by omega, HLO.out, HHI.out, ?_⟩, HB3.out⟩
        constructor
        · intro h
          exact ⟨x, HX.out, cmp_eq _ _ (by simpa using h)⟩
        · rintro ⟨y, hy, he⟩
          have := HX.out.symm.trans hy
          cases this
          rw [he, cmp_self]; rfl
      · have hd : decide ((i : Int) < (L.length : Int)) = false := decide_eq_false (by omega)
        go_wp2_with fail
        go_ret2
        refine ⟨i, false, rfl, ⟨by omega, HLO.out, HHI.out, ?_⟩, HB.out⟩
        constructor
        · intro h; cases h
        · rintro ⟨y, hy, _⟩
          have := (List.getElem?_eq_some_iff.1 hy).1; omega

set_option maxHeartbeats 400000 in
theorem find_any {w : World} {b o p : Nat} {iv cv : Value} (hN : NodeAt w b o iv cv p) (L : List It) (h : OwnI w iv L) (hs : Sorted L) (hn : L.length ≤ 100000) (k : ByteArray) :
    Calls Try.prog 59 #[.pointer (some ⟨b, 0, none⟩), .string k] w fun e w' => ∃ (i : Nat) (found : Bool), e = .returned (.tuple #[.int .i64 (i : Int), .bool found]) ∧ Pos L k.data.toList i found ∧ Below w.heap.size w w' := by
  have h1 := hN.c1
  clear hN
  have HO : Hid (OwnI w iv L) := h
  clear h
  go_enter Try.func59, Try.ntmps59
  go_wp2_with fail
  refine (bsearch_any w iv L HO.out hs hn k).mono ?_
  rintro e w1 ⟨i, found, rfl, hp, hb⟩
  go_wp2_with fail
  go_ret2
  exact ⟨i, found, rfl, hp, hb⟩
end Go.Proofs.Qxb6601392a.Bt
