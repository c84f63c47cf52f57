import Derived.Test.Qxb6601392aModelB
namespace Go.Proofs.Qxb6601392a.Bt
open Go.RowKit

theorem Own.first {e : TypeId} {z n g cap k : Nat} {w : World} {xs : List Value} (h : Own e z w (.slice (some ⟨g, 0, none⟩) n cap) n xs) (hk : k ≤ n) : Own e z w (.slice (some ⟨g, 0, none⟩) k cap) k (xs.take (k * z)) := by
  obtain ⟨hl, hc⟩ := h
  rcases hc with ⟨e, _⟩ | ⟨g', cap', cur, e, h0, hg, hnc, hcm, h3, h4⟩
  · cases e
  · cases e
    have hle : k * z ≤ n * z := Nat.mul_le_mul_right _ hk
    refine ⟨by rw [List.length_take]; omega, .inr ⟨g, cap, cur, rfl, h0, hg, by omega, hcm, h3, ?_⟩⟩
    rw [← h4, List.take_take, Nat.min_eq_left hle]
theorem kcells_take (L : List It) (k : Nat) : (kcells L).take k = kcells (L.take k) := by simp [kcells, List.map_take]
theorem ecells_take (L : List It) (k : Nat) : (ecells L).take (k * 2) = ecells (L.take k) := by
  induction L generalizing k with
  | nil => simp [ecells]
  | cons x L ih =>
    cases k with
    | zero => simp [ecells]
    | succ k =>
      rw [List.take_succ_cons, ecells_cons, ecells_cons, ← ih k, show (k + 1) * 2 = k * 2 + 2 by omega]
      simp

/-- the list while its items move down -/
theorem cut_step {L M : List It} {i j : Nat} {y : It} (hl : M.length = L.length) (hij : i ≤ j) (hy : L[j + 1]? = some y) (h1 : M.take j = (L.take i ++ L.drop (i + 1)).take j) (h2 : M.drop j = L.drop j) :
    (M.set j y).take (j + 1) = (L.take i ++ L.drop (i + 1)).take (j + 1) ∧ (M.set j y).drop (j + 1) = L.drop (j + 1) := by
  have hjl := (List.getElem?_eq_some_iff.1 hy).1
  have hil : (L.take i).length = i := by rw [List.length_take]; omega
  constructor
  · apply List.ext_getElem?
    intro q
    by_cases hq : q < j + 1
    · rw [List.getElem?_take_of_lt hq, List.getElem?_take_of_lt hq]
      by_cases e : q = j
      · subst e
        rw [List.getElem?_set_self (by omega), List.getElem?_append_right (by omega), hil, List.getElem?_drop, ← hy]
        congr 1; omega
      · rw [List.getElem?_set_ne (by omega)]
        have this : (M.take j)[q]? = ((L.take i ++ L.drop (i + 1)).take j)[q]? := by rw [h1]
        rwa [List.getElem?_take_of_lt (by omega), List.getElem?_take_of_lt (by omega)] at this
    · rw [List.getElem?_eq_none (by rw [List.length_take]; omega), List.getElem?_eq_none (by rw [List.length_take]; omega)]
  · rw [List.drop_set, if_pos (by omega)]
    have := congrArg (List.drop 1) h2
    simpa [List.drop_drop, Nat.add_comm] using this

set_option maxRecDepth 100000 in
set_option maxHeartbeats 1000000 in
theorem modelDelete_any {w : World} {kv ev : Value} {L : List It} (h : Model w kv ev L) (hn : L.length ≤ 100000) (i : Nat) (hi : i < L.length) :
    Calls Try.prog 41 #[kv, ev, .int .i64 (i : Int)] w fun e w' => ∃ kv' ev', e = .returned (.tuple #[kv', ev']) ∧ Model w' kv' ev' (L.take i ++ L.drop (i + 1)) ∧ Keeps (fun k => kv.ownBlock = some k ∨ ev.ownBlock = some k) w w' ∧
      (∀ k, (kv'.ownBlock = some k ∨ ev'.ownBlock = some k) → (kv.ownBlock = some k ∨ ev.ownBlock = some k)) := by
  have hn' : (L.length : Int) ≤ 100000 := by omega
  obtain ⟨x0, hx0⟩ : ∃ x0, L[i]? = some x0 := ⟨_, List.getElem?_eq_getElem hi⟩
  obtain ⟨gk, ck, rfl, -, -, hck, hckm⟩ := h.k.at hx0
  obtain ⟨ge, ce, rfl, -, -, -, hce, hcem⟩ := h.e.at hx0
  obtain ⟨n, hnL⟩ : ∃ n, n + 1 = L.length := ⟨L.length - 1, by omega⟩
  have hge : gk ≠ ge := fun e => h.d gk rfl (by rw [e]; rfl)
  have HM := hide' h
  have hil' : (i : Int) < (L.length : Int) := by omega
  have hwn : IntKind.i64.wrap ((L.length : Int) - 1) = (n : Int) := by rw [IntKind.wrap_i64]; omega
  have s30 := fun W => slice_to T30 (some ⟨gk, 0, none⟩) L.length ck n (by omega) W
  have s31 := fun W => slice_to T31 (some ⟨ge, 0, none⟩) L.length ce n (by omega) W
  clear h hx0 x0
  go_enter Try.func41, Try.ntmps41
  go_wp2_with fail
  go_loopw [8] (fun a w' => ∃ (j : Nat) (M : List It), i ≤ j ∧ j < L.length ∧ a = .int .i64 j ∧ M.length = L.length ∧ Model w' (.slice (some ⟨gk, 0, none⟩) L.length ck) (.slice (some ⟨ge, 0, none⟩) L.length ce) M ∧ M.take j = (L.take i ++ L.drop (i + 1)).take j ∧ M.drop j = L.drop j ∧ Keeps (fun k => k = gk ∨ k = ge) w w') (fun a w' => L.length - (intOf a).toNat)
  case atStart =>
    refine ⟨i, L, Nat.le_refl _, hi, rfl, rfl, HM.out, ?_, rfl, Keeps.refl _ _⟩
    rw [List.take_left' (by rw [List.length_take]; omega)]
  case round =>
    obtain ⟨j, M, hij, hjL, rfl, hml, hMr, h1, h2, hKr⟩ := hrel
    have hjl' : (j : Int) < (L.length : Int) := by omega
    have HMR := hide' hMr
    have HKR := hide' hKr
    have H1 := hide' h1
    have H2 := hide' h2
    have HML := hide' hml
    clear hMr hKr h1 h2 hml
    by_cases hlt : j + 1 < L.length
    · obtain ⟨y, hy⟩ : ∃ y, L[j + 1]? = some y := ⟨_, List.getElem?_eq_getElem hlt⟩
      have hMy : M[j + 1]? = some y := by
        have := congrArg (fun l => l[1]?) H2.out
        simp only [List.getElem?_drop] at this
        exact this.trans hy
      obtain ⟨y0, hMj⟩ : ∃ y0, M[j]? = some y0 := ⟨_, List.getElem?_eq_getElem (by have := HML.out; omega)⟩
      obtain ⟨m0, mf⟩ := HMR.out.k.cell hMy
      obtain ⟨n0, n1, nf⟩ := HMR.out.e.cell hMy
      obtain ⟨p0, _⟩ := HMR.out.k.cell hMj
      obtain ⟨p1, p2, _⟩ := HMR.out.e.cell hMj
      have hgl1 := cell_lt m0
      have hgl2 := cell_lt n0
      have x0 := fun W => idx30 gk L.length ck j hjL W
      have x1 : ∀ W, (Instr.indexAt 30 (.slice (some ⟨gk, 0, none⟩) L.length ck) (.int .i64 ((j : Int) + 1))).run Try.prog W = .ok (.pointer (some ⟨gk, j + 1, none⟩)) W := fun W => idx30 gk L.length ck (j + 1) hlt W
      have y0' := fun W => idx31 ge L.length ce j hjL W
      have y1 : ∀ W, (Instr.indexAt 31 (.slice (some ⟨ge, 0, none⟩) L.length ce) (.int .i64 ((j : Int) + 1))).run Try.prog W = .ok (.pointer (some ⟨ge, (j + 1) * 2, none⟩)) W := fun W => idx31 ge L.length ce (j + 1) hlt W
      have hjd : decide ((j : Int) + 1 < (L.length : Int)) = true := decide_eq_true (by omega)
      have hj1 : (j : Int) + 1 < (L.length : Int) := by omega
      have HY := hide' hy
      clear hy hMy hMj
      go_wp2_with fail
      go_roundw
      case rel =>
        obtain ⟨c1, c2⟩ := cut_step HML.out hij HY.out H1.out H2.out
        have kk := OwnK.put' HMR.out.k j y
        have ke := OwnE.put' (HMR.out.e.of_block (w' := wr.setCell ⟨gk, j, none⟩ (.string y.k)) (fun b hb => Below.heap_setCell _ ⟨gk, j, none⟩ _ _ (fun e => HMR.out.d gk rfl (by rw [← show b = gk from e]; exact hb)))) j y
        refine ⟨j + 1, M.set j y, by omega, by omega, by go_num, by rw [List.length_set]; exact HML.out, ⟨kk.of_block (fun b hb => ?_), ke, HMR.out.d⟩, c1, c2, ?_⟩
        · have hb' : b ≠ ge := fun e => HMR.out.d b hb (by rw [e]; rfl)
          exact (Below.heap_setCell _ ⟨ge, _, none⟩ _ _ hb').trans (Below.heap_setCell _ ⟨ge, _, none⟩ _ _ hb')
        · exact ((HKR.out.setCell (p := ⟨gk, j, none⟩) (.inl (.inl rfl)) _).setCell (p := ⟨ge, j * 2, none⟩) (.inl (.inr rfl)) _).setCell (p := ⟨ge, j * 2 + 1, none⟩) (.inl (.inr rfl)) _
      case measure => simp [intOf]; omega
    · obtain rfl : j = n := by omega
      have hjd : decide ((j : Int) + 1 < (L.length : Int)) = false := decide_eq_false (by omega)
      go_wp2_with fail
      go_region
      go_wp2_with fail
      have hM := HMR.out
      have hcl : (L.take i ++ L.drop (i + 1)).length = j := by simp; omega
      have hMj : M.take j = L.take i ++ L.drop (i + 1) := by rw [H1.out, List.take_of_length_le (by omega)]
      have hk0 := hM.k
      have he0 := hM.e
      unfold OwnK at hk0
      unfold OwnE at he0
      rw [HML.out] at hk0 he0
      have hk1 := Own.first (k := j) hk0 (by omega)
      have he1 := Own.first (k := j) he0 (by omega)
      rw [Nat.mul_one, kcells_take, hMj] at hk1
      rw [ecells_take, hMj] at he1
      refine bodyPost_ret (v := .tuple #[.slice (some ⟨gk, 0, none⟩) j ck, .slice (some ⟨ge, 0, none⟩) j ce]) (by simp [results, Try.results41, go_sem]) rfl ⟨_, _, rfl, ⟨by rw [OwnK, hcl]; exact hk1, by rw [OwnE, hcl]; exact he1, fun b hb hb' => hM.d b hb hb'⟩, HKR.out.drew.mono (fun k _ hk => ?_), fun k hk => hk⟩
      rcases hk with e | e
      · exact .inl (by rw [e]; rfl)
      · exact .inr (by rw [e]; rfl)
end Go.Proofs.Qxb6601392a.Bt
