import Derived.Test.Qxb6600116aRows
import Derived.WalkKit
import Derived.WalkSpells
import Derived.WalkLawsBesides
import Derived.Maps.OwnSet
import Derived.Maps.OwnOps
namespace Go.Proofs.Qxb6600116a.Pl
open Go.RowKit
open Go.Maps (Keyed)

/-- a pointer to the start of a block, read as that block's number -/
def ptrR (v : Value) : Option (DataW Unit × List MemPlace) :=
  match v with
  | .pointer none => some (.nil, [])
  | .pointer (some ⟨b, 0, none⟩) => some (.lit (.int .u64 b), [])
  | _ => none

def ptrV (r : Option Nat) : Value := .pointer (r.map fun b => ⟨b, 0, none⟩)
def ptrD (r : Option Nat) : DataW Unit := match r with | none => .nil | some b => .lit (.int .u64 b)

theorem ptrR_mk (r : Option Nat) : ptrR (ptrV r) = some (ptrD r, []) := by cases r <;> rfl
theorem ptrR_inv {v : Value} {r : Option Nat} {ps : List MemPlace} (h : ptrR v = some (ptrD r, ps)) : v = ptrV r := by
  unfold ptrR at h
  split at h
  · cases r with
    | none => rfl
    | some b => simp [ptrD] at h
  · cases r with
    | none => simp [ptrD] at h
    | some b =>
      simp [ptrD] at h
      obtain ⟨h, _⟩ := h
      rw [show ptrV (some b) = .pointer (some ⟨b, 0, none⟩) from rfl, Int.ofNat.inj h]
  · cases h

theorem law : Keyed Try.prog 9 := Maps.string_keyed Try.underlying9
theorem zero32 (w : World) : (zeroValue 32).run Try.prog w = .ok (ptrV none) w := by kernel_rfl

/-- block b of w is a map[string]*place of n entries: the key s leads to block f s -/
def MapIs (w : World) (b : Nat) (f : List UInt8 → Option Nat) (n : Nat) : Prop :=
  ∃ D : DataW Unit, w.ownsMap Try.prog 9 ptrR b n D ∧ Maps.size D = n ∧ ∀ s, D.atKey (.string s) .nil = ptrD (f s) ∧ Maps.has D (.string s) = (f s).isSome

theorem MapIs.lt {w : World} {b n : Nat} {f : List UInt8 → Option Nat} (h : MapIs w b f n) : b < w.heap.size := by
  obtain ⟨D, h, _⟩ := h; exact h.lt

theorem MapIs.of_block {w w' : World} {b n : Nat} {f : List UInt8 → Option Nat} (h : MapIs w b f n) (he : w'.heap[b]? = w.heap[b]?) : MapIs w' b f n := by
  obtain ⟨D, ⟨es, clock, hb, r⟩, hs, ha⟩ := h
  exact ⟨D, ⟨es, clock, he.trans hb, r⟩, hs, ha⟩

theorem mapIs_made (w : World) : MapIs (w.alloc (.map #[] 0)) w.heap.size (fun _ => none) 0 :=
  ⟨_, World.ownsMap_made w Try.prog 9 ptrR, rfl, fun _ => ⟨rfl, rfl⟩⟩

theorem MapIs.lookup {w : World} {b n : Nat} {f : List UInt8 → Option Nat} (h : MapIs w b f n) (s : ByteArray) (hs : s.size ≤ maxLen) :
    (Instr.lookup 39 (.map (some b)) (.string s) false).run Try.prog w = .ok (ptrV (f s.data.toList)) w := by
  obtain ⟨D, h, _, ha⟩ := h
  obtain ⟨v, ps, hrun, hv⟩ := h.lookup law Try.underlying39 (zero32 w) (ptrR_mk none) (WideMaps.keyOf_string_mk Try.underlying9 hs)
  have e := (ha s.data.toList).1
  change ptrR v = some (D.atKey (.string s.data.toList) .nil, ps) at hv
  rw [e] at hv
  rw [hrun, ptrR_inv hv]

theorem MapIs.len {w : World} {b n : Nat} {f : List UInt8 → Option Nat} (h : MapIs w b f n) (ty : TypeId) :
    (Builtin.len_ #[39] ty #[.map (some b)]).run Try.prog w = .ok (.int .i64 n) w := by
  obtain ⟨D, h, hs, _⟩ := h
  rw [h.len Try.underlying39 ty, hs]

theorem MapIs.update {w : World} {b n : Nat} {f : List UInt8 → Option Nat} (h : MapIs w b f n) (hn : n < maxLen) (s : ByteArray) (hs : s.size ≤ maxLen) (hnone : f s.data.toList = none) (c : Nat) :
    ∃ w', (Instr.mapUpdate 39 (.map (some b)) (.string s) (ptrV (some c))).run Try.prog w = .ok () w' ∧ MapIs w' b (fun t => if t = s.data.toList then some c else f t) (n + 1) ∧ w.grownBy w' (some b) ∧ w'.heap.size = w.heap.size := by
  obtain ⟨D, h, hsz, ha⟩ := h
  obtain ⟨w', hrun, h', hg⟩ := h.store law Try.underlying39 hn (WideMaps.keyOf_string_mk Try.underlying9 hs) (ptrR_mk (some c))
  refine ⟨w', hrun, ⟨_, h', ?_, fun t => ?_⟩, hg.grown, by obtain ⟨_, _, _, _, _, rfl⟩ := hg; simp [ChangeMaps.setBlock]⟩
  · rw [Maps.size_put (h.tidy law), (ha _).2, hnone, hsz]; rfl
  · by_cases e : t = s.data.toList
    · subst e
      simp only [if_pos]
      have hk : WideAt.IsKeyLit (Lit.string s.data.toList) := trivial
      exact ⟨Maps.atKey_put_same h.isMap hk _ _, by rw [Maps.has_put_same h.isMap hk]; rfl⟩
    · simp only [if_neg e]
      have hne : Lit.string t ≠ Lit.string s.data.toList := fun h => e (by injection h)
      exact ⟨by rw [Maps.atKey_put_other hne]; exact (ha t).1, by rw [Maps.has_put_other hne]; exact (ha t).2⟩

/-- outside S nothing that was there has turned -/
structure Keeps (S : Nat → Prop) (w w' : World) : Prop where
  os : w'.os = w.os
  tape : w'.tape = w.tape
  output : w'.output = w.output
  size : w.heap.size ≤ w'.heap.size
  block : ∀ k, k < w.heap.size → ¬ S k → w'.heap[k]? = w.heap[k]?

theorem Keeps.refl (S : Nat → Prop) (w : World) : Keeps S w w := ⟨rfl, rfl, rfl, Nat.le_refl _, fun _ _ _ => rfl⟩
theorem Keeps.trans {S : Nat → Prop} {a b c : World} (h : Keeps S a b) (k : Keeps S b c) : Keeps S a c :=
  ⟨k.os.trans h.os, k.tape.trans h.tape, k.output.trans h.output, Nat.le_trans h.size k.size, fun i hi hn => (k.block i (Nat.lt_of_lt_of_le hi h.size) hn).trans (h.block i hi hn)⟩
theorem Keeps.mono {S S' : Nat → Prop} {a b : World} (h : Keeps S a b) (hS : ∀ k, k < a.heap.size → S k → S' k) : Keeps S' a b :=
  ⟨h.os, h.tape, h.output, h.size, fun k hk hn => h.block k hk (fun s => hn (hS k hk s))⟩
theorem Keeps.drew {S : Nat → Prop} {a w : World} (h : Keeps S a w) : Keeps S a w.drew := ⟨h.os, h.tape, h.output, h.size, h.block⟩
theorem Keeps.alloc {S : Nat → Prop} {a w : World} (h : Keeps S a w) (o : Obj) : Keeps S a (w.alloc o) :=
  h.trans ⟨rfl, rfl, rfl, by simp, fun k hk _ => Below.heap_alloc _ _ _ hk⟩
theorem Keeps.setCell {S : Nat → Prop} {a w : World} (h : Keeps S a w) {p : Addr} (hp : S p.block) (u : Value) : Keeps S a (w.setCell p u) :=
  h.trans ⟨rfl, rfl, rfl, by simp [World.setCell], fun k _ hn => Below.heap_setCell _ _ _ _ (fun e => hn (e ▸ hp))⟩
theorem Keeps.grown {S : Nat → Prop} {a w w' : World} {row : Option Nat} (h : Keeps S a w) (hg : w.grownBy w' row) (hr : ∀ k, row = some k → S k) : Keeps S a w' :=
  h.trans ⟨hg.os, hg.tape, hg.output, hg.size, fun k hk hn => hg.block k hk (fun e => hn (hr k e.symm))⟩
theorem Keeps.below {S : Nat → Prop} {a w : World} (h : Keeps S a w) {B : Nat} (hS : ∀ k, S k → B ≤ k) (hB : B ≤ a.heap.size) : Below B a w :=
  ⟨h.os, h.tape, h.output, h.size, fun k hk => h.block k (Nat.lt_of_lt_of_le hk hB) (fun s => by have := hS k s; omega)⟩

theorem cell_lt {w : World} {a : Addr} {v : Value} (h : w.cell? a = some v) : a.block < w.heap.size := by
  unfold World.cell? at h
  split at h
  · rename_i hb
    exact (Array.getElem?_eq_some_iff.1 hb).1
  · cases h
theorem Keeps.cell {S : Nat → Prop} {w w' : World} (h : Keeps S w w') {a : Addr} {v : Value} (hc : w.cell? a = some v) (hn : ¬ S a.block) : w'.cell? a = some v :=
  (World.cell?_of_block (w := w) (h.block a.block (cell_lt hc) hn)).trans hc

/-- block b is a place without a line or a text, its map at m -/
def NodeAt (w : World) (b : Nat) (m : Option Nat) : Prop := w.heap[b]? = some (.cells #[.map m, .int .i64 0, .string ⟨#[]⟩] 41)
theorem NodeAt.lt {w : World} {b : Nat} {m : Option Nat} (h : NodeAt w b m) : b < w.heap.size := (Array.getElem?_eq_some_iff.1 h).1
theorem NodeAt.cell0 {w : World} {b : Nat} {m : Option Nat} (h : NodeAt w b m) : w.cell? ⟨b, 0, none⟩ = some (.map m) := by simp [World.cell?, show w.heap[b]? = _ from h]
theorem NodeAt.cell1 {w : World} {b : Nat} {m : Option Nat} (h : NodeAt w b m) : w.cell? ⟨b, 1, none⟩ = some (.int .i64 0) := by simp [World.cell?, show w.heap[b]? = _ from h]
theorem NodeAt.cell2 {w : World} {b : Nat} {m : Option Nat} (h : NodeAt w b m) : w.cell? ⟨b, 2, none⟩ = some (.string ⟨#[]⟩) := by simp [World.cell?, show w.heap[b]? = _ from h]
theorem NodeAt.free {w : World} {b : Nat} {m : Option Nat} (h : NodeAt w b m) (o : Nat) : w.frozen? ⟨b, o, none⟩ = false := by simp [World.frozen?, show w.heap[b]? = _ from h]
theorem NodeAt.of_block {w w' : World} {b : Nat} {m : Option Nat} (h : NodeAt w b m) (he : w'.heap[b]? = w.heap[b]?) : NodeAt w' b m := he.trans h
theorem NodeAt.set {w : World} {b : Nat} {m : Option Nat} (h : NodeAt w b m) (m' : Option Nat) : NodeAt (w.setCell ⟨b, 0, none⟩ (.map m')) b m' := by
  have hlt := h.lt
  unfold NodeAt at h ⊢
  simp [World.setCell, Array.getElem?_modify, h]
theorem nodeAt_new (w : World) : NodeAt (w.alloc (.cells #[.map none, .int .i64 0, .string ⟨#[]⟩] 41)) w.heap.size none := by
  unfold NodeAt
  show (w.heap.push _)[w.heap.size]? = _
  simp

set_option maxHeartbeats 400000 in
theorem at_hit (w : World) (p M n : Nat) (f : List UInt8 → Option Nat) (s : ByteArray) (c : Nat) (hs : s.size ≤ maxLen) (hp : NodeAt w p (some M)) (hm : MapIs w M f n) (hf : f s.data.toList = some c) :
    Calls Try.prog 21 #[.pointer (some ⟨p, 0, none⟩), .string s] w fun e w' => e = .returned (.pointer (some ⟨c, 0, none⟩)) ∧ w' = w := by
  have h0 := hp.cell0
  have he := fun W r => run_eql_map_nil (P := Try.prog) W 39 9 32 r Try.underlying39
  have hl := hm.lookup s hs
  rw [hf] at hl
  simp only [ptrV, Option.map] at hl
  clear hm hp hf
  go_enter Try.func21, Try.ntmps21
  go_wp2
  go_ret
  exact ⟨rfl, rfl⟩

abbrev newNode : Obj := .cells #[.map none, .int .i64 0, .string ⟨#[]⟩] 41

theorem grown_heap {w w' : World} {b : Nat} (hg : w.grownBy w' (some b)) {k : Nat} (hk : k < w.heap.size) (hne : k ≠ b) : w'.heap[k]? = w.heap[k]? := hg.block k hk (by simpa using hne)

set_option maxHeartbeats 400000 in
theorem at_miss (w : World) (p M n : Nat) (f : List UInt8 → Option Nat) (s : ByteArray) (hs : s.size ≤ maxLen) (hn : n < maxLen) (hp : NodeAt w p (some M)) (hm : MapIs w M f n) (hf : f s.data.toList = none) :
    Calls Try.prog 21 #[.pointer (some ⟨p, 0, none⟩), .string s] w fun e w' => e = .returned (.pointer (some ⟨w.heap.size, 0, none⟩)) ∧
      MapIs w' M (fun t => if t = s.data.toList then some w.heap.size else f t) (n + 1) ∧ NodeAt w' w.heap.size none ∧ w'.heap.size = w.heap.size + 1 ∧ Keeps (fun k => k = M) w w' := by
  have h0 := hp.cell0
  have he := fun W r => run_eql_map_nil (P := Try.prog) W 39 9 32 r Try.underlying39
  have hl := hm.lookup s hs
  rw [hf] at hl
  simp only [ptrV, Option.map] at hl
  have hpl := hp.lt
  have hMl := hm.lt
  have hpM : p ≠ M := by
    intro e; subst e
    obtain ⟨D, ⟨es, clock, hb, _⟩, _⟩ := hm
    unfold NodeAt at hp; rw [hb] at hp; cases hp
  have hm1 : MapIs (w.alloc newNode) M f n := hm.of_block (Below.heap_alloc _ _ _ hMl)
  obtain ⟨w2, hrun, hm2, hg2, hz2⟩ := hm1.update hn s hs hf w.heap.size
  have hsz : w2.heap.size = w.heap.size + 1 := by rw [hz2]; simp
  simp only [ptrV, Option.map] at hrun
  have hl2 := hm2.lookup s hs
  rw [if_pos rfl] at hl2
  simp only [ptrV, Option.map] at hl2
  have h02 : w2.cell? ⟨p, 0, none⟩ = some (.map (some M)) := by
    rw [World.cell?_of_block (w := w.alloc newNode) (grown_heap hg2 (by simp; omega) hpM), World.cell?_alloc_lt _ _ _ hpl]
    exact h0
  have HR : Hid (MapIs w2 M (fun t => if t = s.data.toList then some w.heap.size else f t) (n + 1) ∧ NodeAt w2 w.heap.size none ∧ w2.heap.size = w.heap.size + 1 ∧ Keeps (fun k => k = M) w w2) :=
    ⟨hm2, (nodeAt_new w).of_block (grown_heap hg2 (by simp) (by omega)), hsz, ((Keeps.refl _ w).alloc newNode).grown hg2 (fun k e => by cases e; rfl)⟩
  clear hm1 hm2 hg2 hz2 hsz hm hp hf hn
  go_enter Try.func21, Try.ntmps21
  go_wp2
  go_ret
  exact ⟨rfl, HR.out⟩

set_option maxHeartbeats 400000 in
theorem at_nil (w : World) (p : Nat) (s : ByteArray) (hs : s.size ≤ maxLen) (hp : NodeAt w p none) :
    Calls Try.prog 21 #[.pointer (some ⟨p, 0, none⟩), .string s] w fun e w' => e = .returned (.pointer (some ⟨w.heap.size + 1, 0, none⟩)) ∧
      NodeAt w' p (some w.heap.size) ∧ MapIs w' w.heap.size (fun t => if t = s.data.toList then some (w.heap.size + 1) else none) 1 ∧ NodeAt w' (w.heap.size + 1) none ∧ w'.heap.size = w.heap.size + 2 ∧ Keeps (fun k => k = p) w w' := by
  have h0 := hp.cell0
  have hfr := hp.free 0
  have he := fun W r => run_eql_map_nil (P := Try.prog) W 39 9 32 r Try.underlying39
  have hmm := @run_makeMap Try.prog
  have hpl := hp.lt
  have hne : w.heap.size ≠ p := by omega
  have hA : NodeAt (w.setCell ⟨p, 0, none⟩ (.map (some w.heap.size))) p (some w.heap.size) := hp.set _
  have hz : (w.setCell ⟨p, 0, none⟩ (.map (some w.heap.size))).heap.size = w.heap.size := by simp [World.setCell]
  have hm0 := mapIs_made (w.setCell ⟨p, 0, none⟩ (.map (some w.heap.size)))
  rw [hz] at hm0
  have hl := hm0.lookup s hs
  simp only [ptrV, Option.map] at hl
  have hm1 : MapIs (((w.setCell ⟨p, 0, none⟩ (.map (some w.heap.size))).alloc (.map #[] 0)).alloc newNode) w.heap.size (fun _ => none) 0 := hm0.of_block (Below.heap_alloc _ _ _ (by simp [hz]))
  obtain ⟨w2, hrun, hm2, hg2, hz2⟩ := hm1.update (by decide) s hs rfl (w.heap.size + 1)
  have hz0 : ((w.setCell ⟨p, 0, none⟩ (.map (some w.heap.size))).alloc (.map #[] 0)).heap.size = w.heap.size + 1 := by simp [hz]
  have hsz : w2.heap.size = w.heap.size + 2 := by rw [hz2]; simp [hz]
  simp only [ptrV, Option.map] at hrun
  have hl2 := hm2.lookup s hs
  rw [if_pos rfl] at hl2
  simp only [ptrV, Option.map] at hl2
  have hN2 : NodeAt w2 p (some w.heap.size) := hA.of_block (((grown_heap hg2 (by simp [hz]; omega) (by omega)).trans (Below.heap_alloc _ _ _ (by simp [hz]; omega))).trans (Below.heap_alloc _ _ _ (by simp [hz]; omega)))
  have h02 := hN2.cell0
  have HR : Hid (NodeAt w2 p (some w.heap.size) ∧ MapIs w2 w.heap.size (fun t => if t = s.data.toList then some (w.heap.size + 1) else none) 1 ∧ NodeAt w2 (w.heap.size + 1) none ∧ w2.heap.size = w.heap.size + 2 ∧ Keeps (fun k => k = p) w w2) := by
    refine ⟨hN2, hm2, ?_, hsz, ?_⟩
    · have hh := (nodeAt_new ((w.setCell ⟨p, 0, none⟩ (.map (some w.heap.size))).alloc (.map #[] 0)))
      rw [hz0] at hh
      exact hh.of_block (grown_heap hg2 (by simp [hz]) (by omega))
    · have k1 : Keeps (fun k => k = p ∨ k = w.heap.size) w w2 := ((((Keeps.refl _ w).setCell (.inl rfl) _).alloc _).alloc _).grown hg2 (fun k e => by cases e; exact .inr rfl)
      exact k1.mono (fun k hk h => by omega)
  clear hm0 hm1 hm2 hg2 hz2 hsz hp hN2 hA hz0 hz
  go_enter Try.func21, Try.ntmps21
  go_wp2
  go_ret
  exact ⟨rfl, HR.out⟩
end Go.Proofs.Qxb6600116a.Pl
