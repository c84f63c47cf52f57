import Derived.Test.Qxb6600116aStrs
import Derived.LaidEql
import Derived.Deep.Draws
namespace Go.Proofs.Qxb6600116a.Pl
open Go.RowKit

theorem run_same (w : World) (a b : Nat) (ma mb : Option Nat) (ha : NodeAt w a ma) (hb : NodeAt w b mb) : (sameAddr ⟨a, 0, none⟩ ⟨b, 0, none⟩).run Try.prog w = .ok (decide (a = b)) w := by
  by_cases h : a = b
  · subst h
    rw [run_sameAddr_same]; simp
  · rw [run_sameAddr_other (a := ⟨a, 0, none⟩) (b := ⟨b, 0, none⟩) w (fun e => h (by injection e)) ha hb]; simp [h]

theorem eqIn32 (w : World) (d a b : Nat) (ma mb : Option Nat) (ha : NodeAt w a ma) (hb : NodeAt w b mb) : (Op.equalIn (d + 1) 32 (.pointer (some ⟨a, 0, none⟩)) (.pointer (some ⟨b, 0, none⟩))).run Try.prog w = .ok (decide (a = b)) w := by
  have hs : ∀ W, (Go.sizeOf 41).run Try.prog W = .ok 3 W := fun W => by kernel_rfl
  simp [Op.equalIn, run_underlying Try.underlying32, hs, run_same w a b ma mb ha hb, Result.andThen]

theorem eql32 (w : World) (a b : Nat) (ma mb : Option Nat) (ha : NodeAt w a ma) (hb : NodeAt w b mb) : (binOp .eql 32 (.pointer (some ⟨a, 0, none⟩)) (.pointer (some ⟨b, 0, none⟩))).run Try.prog w = .ok (.bool (decide (a = b))) w := by
  simp only [binOp]
  simp [Op.equal, Op.maxDepth, eqIn32 w 9999 a b ma mb ha hb]
theorem neq32 (w : World) (a b : Nat) (ma mb : Option Nat) (ha : NodeAt w a ma) (hb : NodeAt w b mb) : (binOp .neq 32 (.pointer (some ⟨a, 0, none⟩)) (.pointer (some ⟨b, 0, none⟩))).run Try.prog w = .ok (.bool (!decide (a = b))) w := by
  simp only [binOp]
  simp [Op.equal, Op.maxDepth, eqIn32 w 9999 a b ma mb ha hb]

theorem make34 (n : Nat) (hn : n ≤ 5000) (W : World) : (Instr.makeSlice 34 (.int .i64 (n : Int)) (.int .i64 (n : Int))).run Try.prog W = .ok (.slice (some ⟨W.heap.size, 0, none⟩) n n) (W.alloc (.cells (List.replicate n (Value.pointer none)).toArray 32)) := by
  obtain ⟨i, hi, h0, h1, h2⟩ := info_parts (show (Try.prog.info? 32).map (fun i => (i.zero, i.size, i.bytes)) = some (some (.pointer none), 1, 8) by kernel_rfl)
  rw [run_make W 34 32 i _ Try.underlying34 hi h0 .i64 .i64 n n (by omega) (by omega) (by rw [h2]; omega) (by omega), h1]
  have e : madeCells (Value.pointer none).cells (n * 1) = (List.replicate n (Value.pointer none)).toArray := by
    apply Array.ext_getElem?
    intro j
    by_cases hj : j < n
    · simp [madeCells, Value.cells, hj, Nat.mod_one]
    · simp [madeCells, Value.cells, hj]
  simp only [Int.toNat_natCast, e]

theorem idx34 (b n cap k : Nat) (hk : k < n) (W : World) : (Instr.indexAt 34 (.slice (some ⟨b, 0, none⟩) n cap) (.int .i64 (k : Int))).run Try.prog W = .ok (.pointer (some ⟨b, k, none⟩)) W := by
  have hu : Try.prog.underlying 34 = some (.slice (Try.prog.elem 34)) := by kernel_rfl
  have hE : Try.prog.elem 34 = 32 := by kernel_rfl
  have hs : (Go.sizeOf 32).run Try.prog W = .ok 1 W := by kernel_rfl
  rw [run_indexAt_slice W 34 _ n cap .i64 k hu, if_pos (by omega), hE, hs]
  simp [Result.andThen, Addr.add]
  omega

/-- the copy of the argument: nil stays nil -/
theorem strs_copy_nil (w : World) : Strs w none 0 (fun _ => ⟨0, 0, none⟩) [] :=
  ⟨fun k hk => by simp at hk, fun k hk => by simp at hk, fun k hk => by simp at hk, by simp, by simp [maxLen]⟩
theorem strs_copy (w : World) (b : Nat) (ss : List ByteArray) (h : Row w b 9 (ss.map Value.string)) (hs : ∀ s ∈ ss, s.size ≤ maxLen) (hl : ss.length ≤ maxLen) : Strs w (some ⟨b, 0, none⟩) ss.length (fun k => ⟨b, k, none⟩) ss :=
  ⟨fun k hk W => idx29 b _ _ k hk W, fun k hk => by rw [h.cell]; simp [hk], fun k hk => h.lt, hs, hl⟩

theorem strs_arg (W : World) (a : Addr) (len cap : Nat) (ss : List ByteArray) (hl : len ≤ cap) (hm : cap ≤ maxLen) (hz : ss.length = cap)
    (hcell : ∀ i, i < ss.length → W.cell? (a.add i) = some (.string (ss.getD i ByteArray.empty))) (hws : ∀ s ∈ ss, s.size ≤ maxLen) : Strs W (some a) cap (fun k => a.add k) (ss.take len) := by
  have hn : (ss.take len).length = len := by simp; omega
  have hcell' : ∀ k, k < (ss.take len).length → W.cell? (a.add k) = some (.string ((ss.take len).getD k ByteArray.empty)) := by
    intro k hk
    rw [hcell k (by omega)]
    simp [List.getD, show k < len by omega]
  refine ⟨fun k hk V => ?_, hcell', fun k hk => ?_, fun s hs => hws s (List.mem_of_mem_take hs), by omega⟩
  · rw [hn] at hk ⊢
    have hu : Try.prog.underlying 29 = some (.slice (Try.prog.elem 29)) := by kernel_rfl
    have hE : Try.prog.elem 29 = 9 := by kernel_rfl
    have hs : (Go.sizeOf 9).run Try.prog V = .ok 1 V := by kernel_rfl
    rw [run_indexAt_slice V 29 _ len cap .i64 k hu, if_pos (by omega), hE, hs]
    simp [Result.andThen]
  · exact cell_lt (hcell' k hk)

theorem copy_any (w : World) (A : Option Addr) (cap : Nat) (ad : Nat → Addr) (ss : List ByteArray) (h : Strs w A cap ad ss) (hn : A = none → ss = [] ∧ cap = 0) (h4 : ss.length ≤ 4096) :
    Calls Try.prog 12 #[.slice A ss.length cap] w fun e w' => ∃ A' ad', e = .returned (.slice A' ss.length ss.length) ∧ Strs w' A' ss.length ad' ss ∧ Below w.heap.size w w' := by
  cases A with
  | none =>
    obtain ⟨rfl, rfl⟩ := hn rfl
    refine (copy_nil w).mono ?_
    rintro e w' ⟨rfl, rfl⟩
    exact ⟨none, _, rfl, strs_copy_nil _, Below.refl _ _⟩
  | some a =>
    refine (copy_some w a cap ad ss h h4).mono ?_
    rintro e w' ⟨rfl, hr, hz, hb⟩
    exact ⟨_, _, rfl, strs_copy w' _ ss hr h.small h.len, hb⟩

/-! the chain of places: node j, map j, out of the heap's size R ahead of the first -/
def nd (R j : Nat) : Nat := if j = 0 then R else R + 1 + 2 * j
def mp (R j : Nat) : Nat := R + 2 + 2 * j
theorem nd_zero (R : Nat) : nd R 0 = R := rfl
theorem nd_succ (R j : Nat) : nd R (j + 1) = R + 3 + 2 * j := by unfold nd; rw [if_neg (by omega)]; omega
theorem nd_inj (R i j : Nat) (h : nd R i = nd R j) : i = j := by unfold nd at h; split at h <;> split at h <;> omega
theorem nd_ge (R j : Nat) : R ≤ nd R j := by unfold nd; split <;> omega

def nodeRow (R n i : Nat) : List Value := (List.range (n + 1)).map fun j => if j ≤ i then ptrV (some (nd R j)) else ptrV none
theorem nodeRow_len (R n i : Nat) : (nodeRow R n i).length = n + 1 := by simp [nodeRow]
theorem nodeRow_at (R n i j : Nat) (hj : j ≤ n) : (nodeRow R n i)[j]? = some (if j ≤ i then ptrV (some (nd R j)) else ptrV none) := by
  simp [nodeRow, show j < n + 1 by omega]
theorem nodeRow_start (R n : Nat) : (List.replicate (n + 1) (Value.pointer none)).set 0 (.pointer (some ⟨R, 0, none⟩)) = nodeRow R n 0 := by
  apply List.ext_getElem?
  intro j
  by_cases hj : j ≤ n
  · rw [nodeRow_at R n 0 j hj, List.getElem?_set]
    by_cases h0 : 0 = j
    · subst h0; simp [nd_zero, ptrV]
    · rw [if_neg h0, if_neg (by omega)]; simp [show j < n + 1 by omega, ptrV]
  · rw [List.getElem?_eq_none (by simp; omega), List.getElem?_eq_none (by rw [nodeRow_len]; omega)]
theorem nodeRow_step (R n i : Nat) (hi : i < n) : (nodeRow R n i).set (i + 1) (.pointer (some ⟨nd R (i + 1), 0, none⟩)) = nodeRow R n (i + 1) := by
  apply List.ext_getElem?
  intro j
  by_cases hj : j ≤ n
  · rw [nodeRow_at R n _ j hj, List.getElem?_set]
    by_cases h0 : i + 1 = j
    · subst h0; rw [if_pos rfl, if_pos (by rw [nodeRow_len]; omega), if_pos (Nat.le_refl _)]; rfl
    · rw [if_neg h0, nodeRow_at R n i j hj]
      by_cases h1 : j ≤ i
      · rw [if_pos h1, if_pos (by omega)]
      · rw [if_neg h1, if_neg (by omega)]
  · rw [List.getElem?_eq_none (by simp [nodeRow_len]; omega), List.getElem?_eq_none (by rw [nodeRow_len]; omega)]

/-- behind i steps of the path -/
structure St (W1 : World) (R : Nat) (ss : List ByteArray) (i : Nat) (w : World) : Prop where
  size : w.heap.size = R + 2 + 2 * i
  below : Below R W1 w
  row : Row w (R + 1) 32 (nodeRow R ss.length i)
  node : ∀ j, j < i → NodeAt w (nd R j) (some (mp R j))
  map : ∀ j, j < i → MapIs w (mp R j) (fun t => if t = (ss.getD j ByteArray.empty).data.toList then some (nd R (j + 1)) else none) 1
  last : NodeAt w (nd R i) none

theorem nodeRow_start' (R n : Nat) : (Array.replicate (n + 1) (Value.pointer none)).setIfInBounds 0 (.pointer (some ⟨R, 0, none⟩)) = (nodeRow R n 0).toArray := by
  rw [← nodeRow_start]
  apply Array.toList_inj.1
  rw [Array.toList_setIfInBounds, Array.toList_replicate]

theorem st_start (w : World) (ss : List ByteArray) : St w w.heap.size ss 0 ((w.alloc newNode).alloc (.cells ((Array.replicate (ss.length + 1) (Value.pointer none)).setIfInBounds 0 (.pointer (some ⟨w.heap.size, 0, none⟩))) 32)) := by
  have e1 : (w.alloc newNode).heap.size = w.heap.size + 1 := by simp
  rw [nodeRow_start']
  have hr := row_new (w.alloc newNode) 32 (nodeRow w.heap.size ss.length 0)
  rw [e1] at hr
  refine ⟨by simp, (((Below.refl _ _).alloc (Nat.le_refl _) _).alloc (by simp) _), hr, fun j hj => by omega, fun j hj => by omega, ?_⟩
  exact (nodeAt_new w).of_block (Below.heap_alloc _ _ _ (by simp))

theorem St.step {W1 w w' : World} {R i : Nat} {ss : List ByteArray} (h : St W1 R ss i w) (hi : i < ss.length)
    (h1 : NodeAt w' (nd R i) (some w.heap.size)) (h2 : MapIs w' w.heap.size (fun t => if t = (ss.getD i ByteArray.empty).data.toList then some (w.heap.size + 1) else none) 1)
    (h3 : NodeAt w' (w.heap.size + 1) none) (h4 : w'.heap.size = w.heap.size + 2) (h5 : Keeps (fun k => k = nd R i) w w') :
    St W1 R ss (i + 1) (w'.setCell ⟨R + 1, i + 1, none⟩ (.pointer (some ⟨nd R (i + 1), 0, none⟩))) := by
  have hz := h.size
  have hn := nd_succ R i
  have e1 : w.heap.size = mp R i := by unfold mp; omega
  have e2 : w.heap.size + 1 = nd R (i + 1) := by omega
  have hge := nd_ge R i
  have hne1 : ∀ j, nd R j ≠ R + 1 := fun j => by unfold nd; split <;> omega
  have hfar : ∀ k, k < w.heap.size → k ≠ nd R i → k ≠ R + 1 → (w'.setCell ⟨R + 1, i + 1, none⟩ (.pointer (some ⟨nd R (i + 1), 0, none⟩))).heap[k]? = w.heap[k]? := fun k hk hk2 hk3 =>
    (Below.heap_setCell _ _ _ _ hk3).trans (h5.block k hk hk2)
  have hset : ∀ k, k ≠ R + 1 → (w'.setCell ⟨R + 1, i + 1, none⟩ (.pointer (some ⟨nd R (i + 1), 0, none⟩))).heap[k]? = w'.heap[k]? := fun k hk => Below.heap_setCell _ _ _ _ hk
  refine ⟨by simp [World.setCell]; omega, ?_, ?_, fun j hj => ?_, fun j hj => ?_, ?_⟩
  · have hb : Below R w w' := ⟨h5.os, h5.tape, h5.output, h5.size, fun k hk => h5.block k (by omega) (by omega)⟩
    exact (h.below.trans hb).setCell (by show R ≤ R + 1; omega) _
  · rw [← nodeRow_step R ss.length i hi]
    exact (h.row.of_block (h5.block _ h.row.lt (Ne.symm (hne1 i)))).set _ _
  · by_cases hji : j = i
    · subst hji
      rw [← e1]
      exact h1.of_block (hset _ (hne1 j))
    · exact (h.node j (by omega)).of_block (hfar _ (h.node j (by omega)).lt (fun e => hji (nd_inj R j i e)) (hne1 j))
  · by_cases hji : j = i
    · subst hji
      rw [← e1]
      rw [e2] at h2
      exact h2.of_block (hset w.heap.size (by omega))
    · have := h.map j (by omega)
      refine this.of_block (hfar _ this.lt (fun e => ?_) (by unfold mp; omega))
      have hn2 := h.node
      have h0 := this
      obtain ⟨D, ⟨es, clock, hb, _⟩, _⟩ := h0
      have hl := h.last
      unfold NodeAt at hl
      rw [← e, hb] at hl
      cases hl
  · rw [e2] at h3
    exact h3.of_block (hset (nd R (i + 1)) (by omega))

theorem St.drewN {W1 w : World} {R i : Nat} {ss : List ByteArray} (h : St W1 R ss i w) (q : Nat) : St W1 R ss i (w.drewN q) := by
  exact ⟨h.size, ⟨h.below.os, h.below.tape, h.below.output, h.below.size, h.below.block⟩, h.row, h.node, h.map, h.last⟩

theorem St.nodeAny {W1 w : World} {R n : Nat} {ss : List ByteArray} (h : St W1 R ss n w) {j : Nat} (hj : j ≤ n) : ∃ m, NodeAt w (nd R j) m := by
  by_cases e : j = n
  · subst e; exact ⟨_, h.last⟩
  · exact ⟨_, h.node j (by omega)⟩

theorem St.cellAt {W1 w : World} {R : Nat} {ss : List ByteArray} (h : St W1 R ss ss.length w) {j : Nat} (hj : j ≤ ss.length) : w.cell? ⟨R + 1, j, none⟩ = some (.pointer (some ⟨nd R j, 0, none⟩)) := by
  rw [h.row.cell j, nodeRow_at _ _ _ _ hj, if_pos hj]; rfl

theorem St.sameNode {W1 w : World} {R n : Nat} {ss : List ByteArray} (h : St W1 R ss n w) {i : Nat} (hi : i ≤ n) :
    ∀ q, (binOp .neq 32 (.pointer (some ⟨nd R i, 0, none⟩)) (.pointer (some ⟨nd R i, 0, none⟩))).run Try.prog (w.drewN q) = .ok (.bool false) (w.drewN q) := by
  intro q
  obtain ⟨mi, h1⟩ := h.nodeAny hi
  rw [neq32 (w.drewN q) _ _ mi mi h1 h1, decide_eq_true rfl]; rfl

theorem St.differ {W1 w : World} {R n : Nat} {ss : List ByteArray} (h : St W1 R ss n w) {i j : Nat} (hi : i ≤ n) (hj : j ≤ n) (hne : i ≠ j) :
    ∀ q, (binOp .eql 32 (.pointer (some ⟨nd R i, 0, none⟩)) (.pointer (some ⟨nd R j, 0, none⟩))).run Try.prog (w.drewN q) = .ok (.bool false) (w.drewN q) := by
  intro q
  obtain ⟨mi, h1⟩ := h.nodeAny hi
  obtain ⟨mj, h2⟩ := h.nodeAny hj
  rw [eql32 (w.drewN q) _ _ mi mj h1 h2, decide_eq_false (fun e => hne (nd_inj R i j e))]
end Go.Proofs.Qxb6600116a.Pl
