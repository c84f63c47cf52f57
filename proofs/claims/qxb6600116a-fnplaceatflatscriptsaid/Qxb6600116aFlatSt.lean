import Derived.Test.Qxb6600116aPathSt
namespace Go.Proofs.Qxb6600116a.Pl
open Go.RowKit

def key (ss : List ByteArray) (j : Nat) : List UInt8 := (ss.getD j ByteArray.empty).data.toList
/-- step i stands among the steps ahead of k -/
def seen (ss : List ByteArray) (i : Nat) : Nat → Bool
  | 0 => false
  | k + 1 => seen ss i k || decide (key ss k = key ss i)
/-- how many of the first i steps are new where they stand -/
def distinct (ss : List ByteArray) : Nat → Nat
  | 0 => 0
  | i + 1 => distinct ss i + if seen ss i i then 0 else 1

theorem seen_iff (ss : List ByteArray) (i k : Nat) : seen ss i k = true ↔ ∃ j, j < k ∧ key ss j = key ss i := by
  induction k with
  | zero => simp [seen]
  | succ k ih =>
    rw [seen, Bool.or_eq_true, ih, decide_eq_true_eq]
    constructor
    · rintro (⟨j, hj, e⟩ | e)
      · exact ⟨j, by omega, e⟩
      · exact ⟨k, by omega, e⟩
    · rintro ⟨j, hj, e⟩
      by_cases h : j = k
      · subst h; exact .inr e
      · exact .inl ⟨j, by omega, e⟩

theorem distinct_le (ss : List ByteArray) (i : Nat) : distinct ss i ≤ i := by
  induction i with
  | zero => simp [distinct]
  | succ i ih => rw [distinct]; split <;> omega

def ptrRow (ss : List ByteArray) (f : List UInt8 → Option Nat) (i : Nat) : List Value := (List.range ss.length).map fun j => if j < i then ptrV (f (key ss j)) else ptrV none
theorem ptrRow_len (ss : List ByteArray) (f : List UInt8 → Option Nat) (i : Nat) : (ptrRow ss f i).length = ss.length := by simp [ptrRow]
theorem ptrRow_at (ss : List ByteArray) (f : List UInt8 → Option Nat) (i j : Nat) (hj : j < ss.length) : (ptrRow ss f i)[j]? = some (if j < i then ptrV (f (key ss j)) else ptrV none) := by
  simp [ptrRow, hj]
theorem ptrRow_start (ss : List ByteArray) (f : List UInt8 → Option Nat) : (List.replicate ss.length (Value.pointer none)) = ptrRow ss f 0 := by
  apply List.ext_getElem?
  intro j
  by_cases hj : j < ss.length
  · rw [ptrRow_at ss f 0 j hj]; simp [hj, ptrV]
  · rw [List.getElem?_eq_none (by simp; omega), List.getElem?_eq_none (by rw [ptrRow_len]; omega)]
theorem ptrRow_step (ss : List ByteArray) (f g : List UInt8 → Option Nat) (i c : Nat) (hg : g (key ss i) = some c) (hfg : ∀ j, j < i → g (key ss j) = f (key ss j)) :
    (ptrRow ss f i).set i (.pointer (some ⟨c, 0, none⟩)) = ptrRow ss g (i + 1) := by
  apply List.ext_getElem?
  intro j
  by_cases hj : j < ss.length
  · rw [ptrRow_at ss g _ j hj, List.getElem?_set]
    by_cases h0 : i = j
    · subst h0; rw [if_pos rfl, if_pos (by rw [ptrRow_len]; exact hj), if_pos (by omega), hg]; rfl
    · rw [if_neg h0, ptrRow_at ss f i j hj]
      by_cases h1 : j < i
      · rw [if_pos h1, if_pos (by omega), hfg j h1]
      · rw [if_neg h1, if_neg (by omega)]
  · rw [List.getElem?_eq_none (by simp [ptrRow_len]; omega), List.getElem?_eq_none (by rw [ptrRow_len]; omega)]

/-- behind i steps of the script -/
structure Fl (W1 : World) (R : Nat) (ss : List ByteArray) (i : Nat) (f : List UInt8 → Option Nat) (w : World) : Prop where
  size : R + 2 ≤ w.heap.size
  size0 : i = 0 → w.heap.size = R + 2
  below : Below R W1 w
  row : Row w (R + 1) 32 (ptrRow ss f i)
  root0 : i = 0 → NodeAt w R none
  root1 : 0 < i → NodeAt w R (some (R + 2)) ∧ MapIs w (R + 2) f (distinct ss i)
  dom : ∀ j, j < i → ∃ b, f (key ss j) = some b
  ran : ∀ s b, f s = some b → (∃ j, j < i ∧ key ss j = s) ∧ NodeAt w b none ∧ b ≠ R
  inj : ∀ s t b, f s = some b → f t = some b → s = t

theorem Fl.drewN {W1 w : World} {R i : Nat} {ss : List ByteArray} {f : List UInt8 → Option Nat} (h : Fl W1 R ss i f w) (q : Nat) : Fl W1 R ss i f (w.drewN q) :=
  ⟨h.size, h.size0, ⟨h.below.os, h.below.tape, h.below.output, h.below.size, h.below.block⟩, h.row, h.root0, h.root1, h.dom, h.ran, h.inj⟩

theorem fl_start (w : World) (ss : List ByteArray) : Fl w w.heap.size ss 0 (fun _ => none) ((w.alloc newNode).alloc (.cells (Array.replicate ss.length (Value.pointer none)) 32)) := by
  have e1 : (w.alloc newNode).heap.size = w.heap.size + 1 := by simp
  have hr := row_new (w.alloc newNode) 32 (List.replicate ss.length (Value.pointer none))
  rw [e1] at hr
  refine ⟨by simp, fun _ => by simp, (((Below.refl _ _).alloc (Nat.le_refl _) _).alloc (by simp) _), ?_, fun _ => ?_, fun h => by omega, fun j hj => by omega, fun s b h => (by cases h), fun s t b h => (by cases h)⟩
  · rw [← ptrRow_start]
    simpa using hr
  · exact (nodeAt_new w).of_block (Below.heap_alloc _ _ _ (by simp))

theorem nodeAt_row {w : World} {b c : Nat} {m : Option Nat} {l : List Value} (h : NodeAt w b m) (k : Row w c 32 l) : b ≠ c := by
  intro e; subst e
  unfold NodeAt at h; unfold Row at k
  rw [h] at k
  simp at k
theorem nodeAt_map {w : World} {b c n : Nat} {m : Option Nat} {f : List UInt8 → Option Nat} (h : NodeAt w b m) (k : MapIs w c f n) : b ≠ c := by
  intro e; subst e
  obtain ⟨D, ⟨es, clock, hb, _⟩, _⟩ := k
  unfold NodeAt at h
  rw [h] at hb; cases hb

/-- a step that is there -/
theorem Fl.hit {W1 w : World} {R i c : Nat} {ss : List ByteArray} {f : List UInt8 → Option Nat} (h : Fl W1 R ss i f w) (hi : i < ss.length) (hc : f (key ss i) = some c) :
    Fl W1 R ss (i + 1) f (w.setCell ⟨R + 1, i, none⟩ (.pointer (some ⟨c, 0, none⟩))) := by
  have hset : ∀ k, k ≠ R + 1 → (w.setCell ⟨R + 1, i, none⟩ (.pointer (some ⟨c, 0, none⟩))).heap[k]? = w.heap[k]? := fun k hk => Below.heap_setCell _ _ _ _ hk
  obtain ⟨⟨j, hj, hje⟩, _⟩ := h.ran _ _ hc
  have hd : distinct ss (i + 1) = distinct ss i := by
    rw [distinct, if_pos ((seen_iff ss i i).2 ⟨j, hj, hje⟩)]; rfl
  refine ⟨by simp [World.setCell]; exact h.size, fun e => by omega, h.below.setCell (by show R ≤ R + 1; omega) _, ?_, fun e => by omega, fun _ => ?_, fun k hk => ?_, fun s b hb => ?_, h.inj⟩
  · rw [← ptrRow_step ss f f i c hc (fun _ _ => rfl)]
    exact h.row.set _ _
  · obtain ⟨r1, r2⟩ := h.root1 (by omega)
    rw [hd]
    exact ⟨r1.of_block (hset R (by omega)), r2.of_block (hset (R + 2) (by omega))⟩
  · by_cases e : k = i
    · subst e; exact ⟨c, hc⟩
    · exact h.dom k (by omega)
  · obtain ⟨⟨j, hj, e⟩, hn, hne⟩ := h.ran s b hb
    exact ⟨⟨j, by omega, e⟩, hn.of_block (hset b (nodeAt_row hn h.row)), hne⟩

/-- a new step; c: the new place's block -/
theorem Fl.miss {W1 w w' : World} {R i c : Nat} {ss : List ByteArray} {f : List UInt8 → Option Nat} (h : Fl W1 R ss i f w) (hi : i < ss.length) (hc : f (key ss i) = none)
    (hz : w.heap.size ≤ c) (hN : NodeAt w' c none) (hR : NodeAt w' R (some (R + 2))) (hM : MapIs w' (R + 2) (fun t => if t = key ss i then some c else f t) (distinct ss i + 1)) (hK : Keeps (fun k => k = R ∨ k = R + 2) w w') :
    Fl W1 R ss (i + 1) (fun t => if t = key ss i then some c else f t) (w'.setCell ⟨R + 1, i, none⟩ (.pointer (some ⟨c, 0, none⟩))) := by
  have hset : ∀ k, k ≠ R + 1 → (w'.setCell ⟨R + 1, i, none⟩ (.pointer (some ⟨c, 0, none⟩))).heap[k]? = w'.heap[k]? := fun k hk => Below.heap_setCell _ _ _ _ hk
  have hs := h.size
  have hd : distinct ss (i + 1) = distinct ss i + 1 := by
    rw [distinct, if_neg]
    rw [seen_iff]
    rintro ⟨j, hj, e⟩
    obtain ⟨b, hb⟩ := h.dom j hj
    rw [e, hc] at hb; cases hb
  have hne : ∀ j, j < i → key ss j ≠ key ss i := fun j hj e => by
    obtain ⟨b, hb⟩ := h.dom j hj
    rw [e, hc] at hb; cases hb
  refine ⟨by simp [World.setCell]; have := hK.size; omega, fun e => by omega, ?_, ?_, fun e => by omega, fun _ => ?_, fun k hk => ?_, fun s b hb => ?_, fun s t b hb hb' => ?_⟩
  · have hb : Below R w w' := ⟨hK.os, hK.tape, hK.output, hK.size, fun k hk => hK.block k (by omega) (by omega)⟩
    exact (h.below.trans hb).setCell (by show R ≤ R + 1; omega) _
  · rw [← ptrRow_step ss f _ i c (if_pos rfl) (fun j hj => if_neg (hne j hj))]
    exact (h.row.of_block (hK.block _ h.row.lt (by omega))).set _ _
  · rw [hd]
    exact ⟨hR.of_block (hset R (by omega)), hM.of_block (hset (R + 2) (by omega))⟩
  · by_cases e : k = i
    · subst e; exact ⟨c, if_pos rfl⟩
    · obtain ⟨b, hb⟩ := h.dom k (by omega)
      exact ⟨b, by simp only [if_neg (hne k (by omega))]; exact hb⟩
  · by_cases e : s = key ss i
    · simp only [if_pos e] at hb
      cases hb
      exact ⟨⟨i, by omega, e.symm⟩, hN.of_block (hset c (by omega)), by omega⟩
    · simp only [if_neg e] at hb
      obtain ⟨⟨j, hj, e⟩, hn, hne'⟩ := h.ran s b hb
      have hb2 : b ≠ R + 2 := by
        have := hn
        rcases Nat.eq_zero_or_pos i with h0 | h0
        · omega
        · exact nodeAt_map hn (h.root1 h0).2
      exact ⟨⟨j, by omega, e⟩, (hn.of_block (hK.block b hn.lt (by omega))).of_block (hset b (nodeAt_row hn h.row)), hne'⟩
  · have hlt : ∀ s b, f s = some b → b < w.heap.size := fun s b hb => (h.ran s b hb).2.1.lt
    by_cases e : s = key ss i <;> by_cases e' : t = key ss i
    · rw [e, e']
    · simp only [if_pos e] at hb
      simp only [if_neg e'] at hb'
      cases hb
      have := hlt _ _ hb'; omega
    · simp only [if_neg e] at hb
      simp only [if_pos e'] at hb'
      cases hb'
      have := hlt _ _ hb; omega
    · simp only [if_neg e] at hb
      simp only [if_neg e'] at hb'
      exact h.inj s t b hb hb'

theorem Fl.cellAt {W1 w : World} {R i j : Nat} {ss : List ByteArray} {f : List UInt8 → Option Nat} (h : Fl W1 R ss i f w) (hj : j < i) (hl : i ≤ ss.length) :
    ∃ b, f (key ss j) = some b ∧ w.cell? ⟨R + 1, j, none⟩ = some (.pointer (some ⟨b, 0, none⟩)) ∧ NodeAt w b none ∧ b ≠ R := by
  obtain ⟨b, hb⟩ := h.dom j hj
  obtain ⟨_, hn, hne⟩ := h.ran _ _ hb
  refine ⟨b, hb, ?_, hn, hne⟩
  rw [h.row.cell j, ptrRow_at ss f i j (by omega), if_pos hj, hb]; rfl

theorem key_eq (ss : List ByteArray) {j : Nat} {s : ByteArray} (h : s = ss.getD j ByteArray.empty) : key ss j = s.data.toList := by rw [h]; rfl

/-- root.at(steps[i]) -/
theorem Fl.at {W1 w : World} {R i : Nat} {ss : List ByteArray} {f : List UInt8 → Option Nat} (h : Fl W1 R ss i f w) (hi : i < ss.length) (h4 : ss.length ≤ 4096) {s : ByteArray} (hs : s = ss.getD i ByteArray.empty) (hsz : s.size ≤ maxLen) :
    Calls Try.prog 14 #[.pointer (some ⟨R, 0, none⟩), .string s] w fun e w' => ∃ (c : Nat) (g : List UInt8 → Option Nat), e = .returned (.pointer (some ⟨c, 0, none⟩)) ∧
      (binOp .eql 32 (.pointer (some ⟨c, 0, none⟩)) (.pointer (some ⟨R, 0, none⟩))).run Try.prog w' = .ok (.bool false) w' ∧ (∃ v, w'.cell? ⟨R + 1, i, none⟩ = some v) ∧ w'.frozen? ⟨R + 1, i, none⟩ = false ∧
      Fl W1 R ss (i + 1) g (w'.setCell ⟨R + 1, i, none⟩ (.pointer (some ⟨c, 0, none⟩))) := by
  have hk := key_eq ss hs
  have hlr := h.row.lt
  have hdl := distinct_le ss i
  have hrow : ∀ w' : World, w'.heap[R + 1]? = w.heap[R + 1]? → (∃ v, w'.cell? ⟨R + 1, i, none⟩ = some v) ∧ w'.frozen? ⟨R + 1, i, none⟩ = false := fun w' e => by
    have hr := h.row.of_block e
    exact ⟨⟨_, by rw [hr.cell i, ptrRow_at ss f i i hi]⟩, hr.free i⟩
  rcases Nat.eq_zero_or_pos i with h0 | h0
  · have hz := h.size0 h0
    have hf : f = fun _ => none := by
      funext t
      cases hft : f t with
      | none => rfl
      | some b => obtain ⟨⟨j, hj, _⟩, _⟩ := h.ran t b hft; omega
    refine (zzAt_of (at_nil w R s hsz (h.root0 h0))).mono ?_
    rintro e w' ⟨rfl, hN1, hM1, hN2, hZ, hK⟩
    have hfar : w'.heap[R + 1]? = w.heap[R + 1]? := hK.block _ hlr (by omega)
    refine ⟨w.heap.size + 1, fun t => if t = key ss i then some (w.heap.size + 1) else f t, rfl, ?_, (hrow w' hfar).1, (hrow w' hfar).2, ?_⟩
    · rw [eql32 w' _ _ _ _ hN2 hN1, decide_eq_false (by omega)]
    · refine h.miss hi (by rw [hf]) (by omega) hN2 (by rw [← hz]; exact hN1) ?_ (hK.mono fun k _ e => .inl e)
      rw [← hz, hk, hf, show distinct ss i = 0 by rw [h0]; rfl]
      exact hM1
  · obtain ⟨r1, r2⟩ := h.root1 h0
    cases hc : f (key ss i) with
    | some c =>
      refine (zzAt_of (at_hit w R (R + 2) _ f s c hsz r1 r2 (by rw [← hk]; exact hc))).mono ?_
      rintro e w' ⟨rfl, rfl⟩
      obtain ⟨_, hn, hne⟩ := h.ran _ _ hc
      refine ⟨c, f, rfl, ?_, (hrow _ rfl).1, (hrow _ rfl).2, h.hit hi hc⟩
      rw [eql32 _ _ _ _ _ hn r1, decide_eq_false hne]
    | none =>
      refine (zzAt_of (at_miss w R (R + 2) _ f s hsz (by unfold maxLen; omega) r1 r2 (by rw [← hk]; exact hc))).mono ?_
      rintro e w' ⟨rfl, hM1, hN2, hZ, hK⟩
      have hfar : w'.heap[R + 1]? = w.heap[R + 1]? := hK.block _ hlr (by omega)
      have hR : NodeAt w' R (some (R + 2)) := r1.of_block (hK.block _ r1.lt (by omega))
      refine ⟨w.heap.size, fun t => if t = key ss i then some w.heap.size else f t, rfl, ?_, (hrow w' hfar).1, (hrow w' hfar).2, ?_⟩
      · have := h.size
        rw [eql32 w' _ _ _ _ hN2 hR, decide_eq_false (by omega)]
      · refine h.miss hi hc (Nat.le_refl _) hN2 hR ?_ (hK.mono fun k _ e => .inr e)
        rw [hk]; exact hM1

/-- 'ptrs[i] == ptrs[j]' and 'steps[i] == steps[j]' say the same -/
theorem Fl.agree {W1 w : World} {R n i j bi bj : Nat} {ss : List ByteArray} {f : List UInt8 → Option Nat} (h : Fl W1 R ss n f w) {si sj : ByteArray} (hsi : si = ss.getD i ByteArray.empty) (hsj : sj = ss.getD j ByteArray.empty)
    (hbi : f (key ss i) = some bi) (hbj : f (key ss j) = some bj) (hni : NodeAt w bi none) (hnj : NodeAt w bj none) :
    ∃ r : Bool, (∀ q, (binOp .eql 32 (.pointer (some ⟨bi, 0, none⟩)) (.pointer (some ⟨bj, 0, none⟩))).run Try.prog (w.drewN q) = .ok (.bool r) (w.drewN q)) ∧ r = decide (key ss j = key ss i) ∧ (si.toList == sj.toList) = r ∧ (sj.toList == si.toList) = r := by
  have hd : decide (bi = bj) = decide (key ss j = key ss i) := by
    rw [decide_eq_decide]
    constructor
    · intro e; subst e; exact (h.inj _ _ _ hbi hbj).symm
    · intro e; rw [e, hbi] at hbj; exact Option.some.inj hbj
  have hb : ∀ a b : ByteArray, (a.toList == b.toList) = decide (b.data.toList = a.data.toList) := by
    intro a b
    rw [ByteArray.toList_eq, ByteArray.toList_eq]
    by_cases e : a.data.toList = b.data.toList
    · rw [e]; simp
    · rw [decide_eq_false (fun h => e h.symm)]
      exact beq_eq_false_iff_ne.2 e
  refine ⟨decide (bi = bj), fun q => eql32 (w.drewN q) _ _ none none hni hnj, hd, ?_, ?_⟩
  · rw [hd, key_eq ss hsi, key_eq ss hsj, hb]
  · rw [hd, key_eq ss hsi, key_eq ss hsj, hb, decide_eq_decide]
    exact ⟨Eq.symm, Eq.symm⟩

theorem seen_step (ss : List ByteArray) (i j : Nat) (r : Bool) (hr : r = decide (key ss j = key ss i)) (h : j < i) : seen ss i (min (j + 1) i) = (seen ss i (min j i) || r) := by
  rw [Nat.min_eq_left (by omega), Nat.min_eq_left (by omega), seen, hr]
theorem seen_stay (ss : List ByteArray) (i j : Nat) (h : ¬ j < i) : seen ss i (min (j + 1) i) = seen ss i (min j i) := by
  rw [Nat.min_eq_right (by omega), Nat.min_eq_right (by omega)]
theorem Fl.same {W1 w : World} {R n b : Nat} {ss : List ByteArray} {f : List UInt8 → Option Nat} {t : List UInt8} (h : Fl W1 R ss n f w) (hb : f t = some b) :
    ∀ q, (binOp .neq 32 (.pointer (some ⟨b, 0, none⟩)) (.pointer (some ⟨b, 0, none⟩))).run Try.prog (w.drewN q) = .ok (.bool false) (w.drewN q) := by
  intro q
  obtain ⟨_, hn, _⟩ := h.ran _ _ hb
  rw [neq32 (w.drewN q) _ _ _ _ hn hn, decide_eq_true rfl]; rfl

/-- ZZUnderLen(root) -/
theorem Fl.len {W1 w : World} {R n : Nat} {ss : List ByteArray} {f : List UInt8 → Option Nat} (h : Fl W1 R ss n f w) :
    Calls Try.prog 17 #[.pointer (some ⟨R, 0, none⟩)] w fun e w' => e = .returned (.int .i64 (distinct ss n)) ∧ w' = w := by
  rcases Nat.eq_zero_or_pos n with h0 | h0
  · rw [h0]
    exact len_nil w R (h.root0 h0)
  · exact len_some w R _ _ f (h.root1 h0).1 (h.root1 h0).2
end Go.Proofs.Qxb6600116a.Pl
