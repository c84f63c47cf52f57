import Derived.Test.Qxb6601392aBase
import Derived.Maps.AppendAt
import Derived.Lib.SliceRun
import Derived.Lib.Overlaps
import Derived.Lib.AppendZerosOnto
import Derived.Deep.RegionHeld3
import Derived.Deep.RegionLaw
namespace Go.Proofs.Qxb6601392a.Bt
open Go.RowKit

/-- outside S nothing that was there has turned -/
structure Keeps (S : Nat → Prop) (w w' : World) : Prop where
  os : w'.os = w.os
  tape : w'.tape = w.tape
  output : w'.output = w.output
  size : w.heap.size ≤ w'.heap.size
  block : ∀ k, k < w.heap.size → ¬ S k → w'.heap[k]? = w.heap[k]?

theorem Keeps.refl (S : Nat → Prop) (w : World) : Keeps S w w := ⟨rfl, rfl, rfl, Nat.le_refl _, fun _ _ _ => rfl⟩
theorem Keeps.trans {S : Nat → Prop} {a b c : World} (h : Keeps S a b) (k : Keeps S b c) : Keeps S a c :=
  ⟨k.os.trans h.os, k.tape.trans h.tape, k.output.trans h.output, Nat.le_trans h.size k.size, fun i hi hn => (k.block i (Nat.lt_of_lt_of_le hi h.size) hn).trans (h.block i hi hn)⟩
theorem Keeps.mono {S S' : Nat → Prop} {a b : World} (h : Keeps S a b) (hS : ∀ k, k < a.heap.size → S k → S' k) : Keeps S' a b :=
  ⟨h.os, h.tape, h.output, h.size, fun k hk hn => h.block k hk (fun s => hn (hS k hk s))⟩
theorem Keeps.drew {S : Nat → Prop} {a w : World} (h : Keeps S a w) : Keeps S a w.drew := ⟨h.os, h.tape, h.output, h.size, h.block⟩
theorem Keeps.drewN {S : Nat → Prop} {a w : World} (h : Keeps S a w) (n : Nat) : Keeps S a (w.drewN n) := ⟨h.os, h.tape, h.output, h.size, h.block⟩
theorem Keeps.alloc {S : Nat → Prop} {a w : World} (h : Keeps S a w) (o : Obj) : Keeps S a (w.alloc o) :=
  h.trans ⟨rfl, rfl, rfl, by simp, fun k hk _ => Below.heap_alloc _ _ _ hk⟩
theorem Keeps.setCell {S : Nat → Prop} {a w : World} (h : Keeps S a w) {p : Addr} (hp : S p.block ∨ a.heap.size ≤ p.block) (u : Value) : Keeps S a (w.setCell p u) :=
  ⟨h.os, h.tape, h.output, by have := h.size; simp [World.setCell]; exact this, fun k hk hn => (Below.heap_setCell _ _ _ _ (fun e => by rcases hp with hp | hp; exact hn (e ▸ hp); omega)).trans (h.block k hk hn)⟩
theorem Keeps.grown {S : Nat → Prop} {a w w' : World} {row : Option Nat} (h : Keeps S a w) (hg : w.grownBy w' row) (hr : ∀ k, row = some k → S k ∨ a.heap.size ≤ k) : Keeps S a w' :=
  ⟨hg.os.trans h.os, hg.tape.trans h.tape, hg.output.trans h.output, Nat.le_trans h.size hg.size, fun k hk hn => (hg.block k (Nat.lt_of_lt_of_le hk h.size) (fun e => by rcases hr k e.symm with hp | hp; exact hn hp; omega)).trans (h.block k hk hn)⟩
/-- one step behind another: the second may also turn what is new -/
theorem Keeps.andThen {S S' : Nat → Prop} {a b c : World} (h : Keeps S a b) (k : Keeps S' b c) (hS : ∀ i, i < a.heap.size → S' i → S i) : Keeps S a c :=
  ⟨k.os.trans h.os, k.tape.trans h.tape, k.output.trans h.output, Nat.le_trans h.size k.size, fun i hi hn => (k.block i (Nat.lt_of_lt_of_le hi h.size) (fun s => hn (hS i hi s))).trans (h.block i hi hn)⟩
theorem Keeps.below {S : Nat → Prop} {a w : World} (h : Keeps S a w) {B : Nat} (hS : ∀ k, S k → B ≤ k) (hB : B ≤ a.heap.size) : Below B a w :=
  ⟨h.os, h.tape, h.output, h.size, fun k hk => h.block k (Nat.lt_of_lt_of_le hk hB) (fun s => by have := hS k s; omega)⟩
theorem keeps_of_below {S : Nat → Prop} {w w' : World} (h : Below w.heap.size w w') : Keeps S w w' := ⟨h.os, h.tape, h.output, h.size, fun k hk _ => h.block k hk⟩
theorem cell_lt {w : World} {a : Addr} {v : Value} (h : w.cell? a = some v) : a.block < w.heap.size := by
  unfold World.cell? at h
  split at h
  · rename_i hb
    exact (Array.getElem?_eq_some_iff.1 hb).1
  · cases h
theorem Keeps.cell {S : Nat → Prop} {w w' : World} (h : Keeps S w w') {a : Addr} {v : Value} (hc : w.cell? a = some v) (hn : ¬ S a.block) : w'.cell? a = some v :=
  (World.cell?_of_block (w := w) (h.block a.block (cell_lt hc) hn)).trans hc

/-! ### slices in rows of their own -/
/-- what is asked of a slice type t: its element type e, of z cells -/
structure STy (t e : TypeId) (z : Nat) (zero : Value) : Prop where
  ht : Try.prog.underlying t = some (.slice e)
  hi : ∃ bytes, (Try.prog.info? e).map (fun i => (i.zero, i.size, i.bytes)) = some (some zero, z, bytes) ∧ bytes ≤ 64
  hs : ∀ W, (Go.sizeOf e).run Try.prog W = .ok z W
  hz : ∀ W, (zeroValue e).run Try.prog W = .ok zero W
  hc : zero.cells.size = z
  one : ∀ u ∈ zero.cells.toList, u.oneCell' = true
  pos : 0 < z

theorem T59 : STy 59 75 3 (.agg #[.string ⟨#[]⟩, .string ⟨#[]⟩, .int .u64 0]) := ⟨Try.underlying59, ⟨40, by kernel_rfl, by omega⟩, fun _ => by kernel_rfl, fun _ => by kernel_rfl, rfl, by decide, by omega⟩
theorem T60 : STy 60 28 1 (.pointer none) := ⟨Try.underlying60, ⟨8, by kernel_rfl, by omega⟩, fun _ => by kernel_rfl, fun _ => by kernel_rfl, rfl, by decide, by omega⟩
theorem T30 : STy 30 9 1 (.string ⟨#[]⟩) := ⟨Try.underlying30, ⟨16, by kernel_rfl, by omega⟩, fun _ => by kernel_rfl, fun _ => by kernel_rfl, rfl, by decide, by omega⟩
theorem T31 : STy 31 64 2 (.agg #[.string ⟨#[]⟩, .int .u64 0]) := ⟨Try.underlying31, ⟨24, by kernel_rfl, by omega⟩, fun _ => by kernel_rfl, fun _ => by kernel_rfl, rfl, by decide, by omega⟩

abbrev Own (e : TypeId) (z : Nat) (w : World) (v : Value) (n : Nat) (xs : List Value) : Prop := w.ownsRow 0 e z v n xs

theorem Own.of_block {e : TypeId} {z n : Nat} {w w' : World} {v : Value} {xs : List Value} (h : Own e z w v n xs) (hb : ∀ k, v.ownBlock = some k → w'.heap[k]? = w.heap[k]?) : Own e z w' v n xs := by
  obtain ⟨hl, h⟩ := h
  refine ⟨hl, ?_⟩
  rcases h with ⟨rfl, rfl⟩ | ⟨g, cap, cur, rfl, h0, hg, h1, h2, h3, h4⟩
  · exact .inl ⟨rfl, rfl⟩
  · exact .inr ⟨g, cap, cur, rfl, h0, (hb g rfl).trans hg, h1, h2, h3, h4⟩
theorem Own.blk {e : TypeId} {z n : Nat} {w : World} {v : Value} {xs : List Value} (h : Own e z w v n xs) : ∀ k, v.ownBlock = some k → k < w.heap.size := fun k hk => (h.lt k hk).2

/-- the value written out -/
theorem Own.form {e : TypeId} {z n : Nat} {w : World} {v : Value} {xs : List Value} (h : Own e z w v n xs) : ∃ A cap, v = .slice A n cap ∧ n ≤ cap ∧ cap ≤ maxLen := by
  obtain ⟨hl, h⟩ := h
  rcases h with ⟨rfl, rfl⟩ | ⟨g, cap, cur, rfl, h0, hg, h1, h2, h3, h4⟩
  · exact ⟨none, 0, rfl, Nat.le_refl _, Nat.zero_le _⟩
  · exact ⟨_, cap, rfl, h1, h2⟩
/-- where element k lies -/
theorem Own.at {e : TypeId} {z n : Nat} {w : World} {v : Value} {xs : List Value} (h : Own e z w v n xs) {k : Nat} (hk : k < n) : ∃ g cap, v = .slice (some ⟨g, 0, none⟩) n cap ∧ cap ≤ maxLen ∧ n ≤ cap ∧ ∀ j u, xs[k * z + j]? = some u → w.cell? ⟨g, k * z + j, none⟩ = some u := by
  obtain ⟨hl, h⟩ := h
  rcases h with ⟨rfl, rfl⟩ | ⟨g, cap, cur, rfl, h0, hg, h1, h2, h3, h4⟩
  · omega
  · refine ⟨g, cap, rfl, h2, h1, fun j u hu => ?_⟩
    rw [← h4] at hu
    simp [World.cell?, hg]
    have hlt := (List.getElem?_eq_some_iff.1 hu).1
    rw [List.getElem?_take_of_lt (by simp at hlt; omega)] at hu
    simpa using hu

/-- append onto a row of one's own -/
theorem append_own {t e : TypeId} {z : Nat} {zero : Value} (T : STy t e z zero) (w : World) {v : Value} {n : Nat} {xs : List Value} (h : Own e z w v n xs) (a : Addr) (m c : Nat) (news : List Value)
    (hl : news.length = m * z) (hnews : ∀ j u, news[j]? = some u → w.cell? (a.add j) = some u) (h1 : ∀ u ∈ news, u.oneCell' = true) (hsm : n + m ≤ 1000000) (ty : TypeId) :
    ∃ v' w', (Builtin.append_ #[t, t] ty #[v, .slice (some a) m c]).run Try.prog w = .ok v' w' ∧ Own e z w' v' (n + m) (xs ++ news) ∧ Keeps (fun k => v.ownBlock = some k) w w' ∧ (v'.ownBlock = v.ownBlock ∨ v'.ownBlock = some w.heap.size) := by
  obtain ⟨bytes, hi, hb⟩ := T.hi
  obtain ⟨i, hi, h0, hsz, hby⟩ := info_parts hi
  obtain ⟨v', w', r1, r2, r3, _, r4⟩ := run_append_own_at w 0 t ty e i zero z bytes T.ht hi h0 hsz hby T.hc T.pos v n xs h a m c news hl hnews h1 (by unfold maxLen; omega)
    (Nat.le_trans (Nat.mul_le_mul hsm hb) (by omega)) (Nat.zero_le _)
  exact ⟨v', w', r1, r2, (Keeps.refl _ w).grown r3 (fun k hk => .inl hk), r4⟩

theorem STy.elem {t e : TypeId} {z : Nat} {zero : Value} (T : STy t e z zero) : Try.prog.elem t = e := by simp [Program.elem, T.ht]
theorem STy.ht' {t e : TypeId} {z : Nat} {zero : Value} (T : STy t e z zero) : Try.prog.underlying t = some (.slice (Try.prog.elem t)) := by rw [T.elem]; exact T.ht
theorem add0 (a : Addr) : a.add 0 = a := by unfold Addr.add; split <;> simp_all

theorem slice_to {t e : TypeId} {z : Nat} {zero : Value} (T : STy t e z zero) (A : Option Addr) (n cap i : Nat) (h : i ≤ cap) (W : World) :
    (Instr.slice t (.slice A n cap) none (some (.int .i64 (i : Int))) none).run Try.prog W = .ok (.slice A i cap) W := by
  rw [run_slice_h W t A n cap T.ht' .i64 i (by omega) (by omega), T.elem, T.hs]
  simp only [Result.andThen, sliced, Nat.zero_mul, Nat.sub_zero, Int.toNat_natCast]
  cases A with
  | none => simp
  | some a => simp [add0]
theorem slice_from {t e : TypeId} {z : Nat} {zero : Value} (T : STy t e z zero) (g n cap j : Nat) (h : j ≤ n) (W : World) :
    (Instr.slice t (.slice (some ⟨g, 0, none⟩) n cap) (some (.int .i64 (j : Int))) none none).run Try.prog W = .ok (.slice (some ⟨g, (if cap = j then 0 else j * z), none⟩) (n - j) (cap - j)) W := by
  rw [run_slice_l W t _ n cap T.ht' .i64 j (by omega) (by omega), T.elem, T.hs]
  simp only [Result.andThen, sliced, Int.toNat_natCast]
  by_cases hc : cap = j
  · simp [hc]
  · simp [hc, Addr.add]
    exact fun h => h.symm
theorem slice_lh {t e : TypeId} {z : Nat} {zero : Value} (T : STy t e z zero) (g n cap j k : Nat) (h : j ≤ k) (hk : k ≤ cap) (W : World) :
    (Instr.slice t (.slice (some ⟨g, 0, none⟩) n cap) (some (.int .i64 (j : Int))) (some (.int .i64 (k : Int))) none).run Try.prog W = .ok (.slice (some ⟨g, (if cap = j then 0 else j * z), none⟩) (k - j) (cap - j)) W := by
  rw [run_slice_lh W t _ n cap T.ht' .i64 .i64 j k (by omega) (by omega) (by omega), T.elem, T.hs]
  simp only [Result.andThen, sliced, Int.toNat_natCast]
  by_cases hc : cap = j
  · simp [hc]
  · simp [hc, Addr.add]
    exact fun h => h.symm
theorem slice_lhm {t e : TypeId} {z : Nat} {zero : Value} (T : STy t e z zero) (A : Option Addr) (n cap j k m : Nat) (h : j ≤ k) (hk : k ≤ m) (hm : m ≤ cap) :
    ∃ v, ∀ W, (Instr.slice t (.slice A n cap) (some (.int .i64 (j : Int))) (some (.int .i64 (k : Int))) (some (.int .i64 (m : Int)))).run Try.prog W = .ok v W := by
  refine ⟨sliced A j k m z, fun W => ?_⟩
  rw [run_slice_lhm W t _ n cap T.ht' .i64 .i64 .i64 j k m (by omega) (by omega) (by omega) (by omega), T.elem, T.hs]
  rfl

/-- the cells of a block, written from o on -/
def putAt (cur : List Value) (o : Nat) (vs : List Value) : List Value := cur.take o ++ vs ++ cur.drop (o + vs.length)
theorem putAt_len (cur : List Value) (o : Nat) (vs : List Value) (h : o + vs.length ≤ cur.length) : (putAt cur o vs).length = cur.length := by
  simp [putAt]; omega

theorem keeps_setRow (w : World) (g : Nat) (cs : Array Value) : Keeps (fun k => k = g) w (w.setRow g cs) :=
  ⟨rfl, rfl, rfl, by simp, fun k _ hn => setRow_other w g k _ hn⟩

theorem copy_run {t e : TypeId} {z : Nat} {zero : Value} (T : STy t e z zero) (w : World) (g o dLen dCap : Nat) (a : Addr) (sLen sCap : Nat) (cur : Array Value) (t' : TypeId) (cs : List Value)
    (hg : w.heap[g]? = some (.cells cur t' (0, 0))) (hn : cs.length = Nat.min sLen dLen * z) (hsrc : ∀ j v, cs[j]? = some v → w.cell? (a.add j) = some v) (hfit : o + cs.length ≤ cur.size) (h1 : ∀ v ∈ cs, v.oneCell' = true) (ty : TypeId) :
    (Builtin.copy_ #[t, t] ty #[.slice (some ⟨g, o, none⟩) dLen dCap, .slice (some a) sLen sCap]).run Try.prog w = .ok (goInt (Nat.min sLen dLen)) (w.setRow g (putAt cur.toList o cs).toArray) := by
  have hl := run_loadCells_list (P := Try.prog) w a cs hsrc
  have hst := run_storeCells_at Try.prog g o t' cs 0 cur w hg (by simpa using hfit) h1
  rw [hn] at hl
  simp [Builtin.copy_, run_underlying T.ht, Builtin.lenOf, Builtin.firstCells, T.hs, hl, hst, putAt]

theorem append_room_run {t e : TypeId} {z : Nat} {zero : Value} (T : STy t e z zero) (w : World) (g sLen sCap : Nat) (cur : Array Value) (hg : w.heap[g]? = some (.cells cur e (0, 0)))
    (a : Addr) (m c : Nat) (news : List Value) (hl : news.length = m * z) (hnews : ∀ j u, news[j]? = some u → w.cell? (a.add j) = some u) (h1 : ∀ u ∈ news, u.oneCell' = true)
    (hroom : sLen + m ≤ sCap) (hfit : sLen * z + news.length ≤ cur.size) (ty : TypeId) :
    (Builtin.append_ #[t, t] ty #[.slice (some ⟨g, 0, none⟩) sLen sCap, .slice (some a) m c]).run Try.prog w = .ok (.slice (some ⟨g, 0, none⟩) (sLen + m) sCap) (w.setRow g (putAt cur.toList (sLen * z) news).toArray) := by
  obtain ⟨bytes, hi, hb⟩ := T.hi
  obtain ⟨i, hi, h0, hsz, hby⟩ := info_parts hi
  have hfit' : sLen * i.size + news.length ≤ cur.size := by rw [hsz]; exact hfit
  have hl' : news.length = m * i.size := by rw [hsz]; exact hl
  have hr := run_append_room (P := Try.prog) w t ty e i T.ht hi g sLen sCap cur hg a m c news hl' hnews h1 hroom hfit'
  rw [hr, hsz]
  rfl

theorem zeroCells_len (z : Array Value) (n : Nat) : (Builtin.zeroCells z n).toList.length = n * z.size := by simp [Builtin.zeroCells]
theorem zeroCells_one (zero : Value) (h1 : ∀ u ∈ zero.cells.toList, u.oneCell' = true) (hp : 0 < zero.cells.size) (n : Nat) : ∀ u ∈ (Builtin.zeroCells zero.cells n).toList, u.oneCell' = true := by
  intro u hu
  simp only [Builtin.zeroCells, Array.toList_map, List.mem_map] at hu
  obtain ⟨i, _, rfl⟩ := hu
  apply h1
  have : i % zero.cells.size < zero.cells.size := Nat.mod_lt _ hp
  rw [getElem!_pos zero.cells _ this]
  simp

theorem clear_run {t e : TypeId} {z : Nat} {zero : Value} (T : STy t e z zero) (w : World) (g o n cap : Nat) (cur : Array Value) (t' : TypeId)
    (hg : w.heap[g]? = some (.cells cur t' (0, 0))) (hn : 0 < n) (hfit : o + n * z ≤ cur.size) (ty : TypeId) :
    (Builtin.clear_ #[t] ty #[.slice (some ⟨g, o, none⟩) n cap]).run Try.prog w = .ok (.tuple #[]) (w.setRow g (putAt cur.toList o (Builtin.zeroCells zero.cells n).toList).toArray) := by
  have hp : 0 < zero.cells.size := by rw [T.hc]; exact T.pos
  have hst := run_storeCells_at Try.prog g o t' (Builtin.zeroCells zero.cells n).toList 0 cur w hg (by rw [zeroCells_len, T.hc]; simpa using hfit) (zeroCells_one zero T.one hp n)
  obtain ⟨m, rfl⟩ : ∃ m, n = m + 1 := ⟨n - 1, by omega⟩
  simp [Builtin.clear_, run_underlying T.ht, T.hz, hst, putAt]

/-! ### builtins whose run is known by an equation -/
theorem wpList_append_run {P : Program} (w : World) {ops : Array Oper} {rest : List Oper} {o : Oper} {a : Act} {Q : Exit → Act → World → Prop} (hgd : o.guard = none) (d s : Operand) (t t' : TypeId)
    (ho : o.op = .call { callee := .builtin .append, args := #[d, s], argTypes := #[t, t'] }) (v u : Value) (hd : a.eval d = v) (hs : a.eval s = u) {v' : Value} {w' : World}
    (hr : (Builtin.append_ #[t, t'] o.type #[v, u]).run P w = .ok v' w') (h : wpList P ops Q rest (a.put o.dst v') w') : wpList P ops Q (o :: rest) a w := by
  refine wpList_plain hgd fun K hK => ?_
  unfold Oper.wp execOp
  simp only [ho, resolve, invoke, builtin, Sem.run_bind, Sem.run_pure, Result.andThen_ok, List.map_toArray, List.map_cons, List.map_nil, hd, hs, hr]
  exact hK _ _ h

theorem step_append_run {P : Program} {ops : Array Oper} {o : Oper} {a : Act} {w : World} {K : Act → World → Prop} {Q : Exit → Act → World → Prop} {E : Prop}
    (hg : o.guard = none) (d x : Operand) (dT sT : TypeId) (hop : o.op = Op.call { callee := Callee.builtin Builtin.append, args := #[d, x], argTypes := #[dT, sT] })
    (v u : Value) (hd : a.eval d = v) (hx : a.eval x = u) {v' : Value} {w' : World} (hr : (Builtin.append_ #[dT, sT] o.type #[v, u]).run P w = .ok v' w') (hK : K (a.put o.dst v') w') :
    if Region.wanted o (yielded ops a.tmps) = true then Oper.wp P o a w K Q else E := by
  have hw : Region.wanted o (yielded ops a.tmps) = true := by simp [Region.wanted, hg]
  rw [if_pos hw]
  unfold Oper.wp
  simp [execOp, hop, resolve, invoke, builtin, hd, hx, hr, Result.andThen]
  exact hK

theorem wpList_copy_run {P : Program} (w : World) {ops : Array Oper} {rest : List Oper} {o : Oper} {a : Act} {Q : Exit → Act → World → Prop} (hgd : o.guard = none) (d s : Operand) (t t' : TypeId)
    (ho : o.op = .call { callee := .builtin .copy, args := #[d, s], argTypes := #[t, t'] }) (v u : Value) (hd : a.eval d = v) (hs : a.eval s = u) {v' : Value} {w' : World}
    (hr : (Builtin.copy_ #[t, t'] o.type #[v, u]).run P w = .ok v' w') (h : wpList P ops Q rest (a.put o.dst v') w') : wpList P ops Q (o :: rest) a w := by
  refine wpList_plain hgd fun K hK => ?_
  unfold Oper.wp execOp
  simp only [ho, resolve, invoke, builtin, Sem.run_bind, Sem.run_pure, Result.andThen_ok, List.map_toArray, List.map_cons, List.map_nil, hd, hs, hr]
  exact hK _ _ h

theorem step_copy_run {P : Program} {ops : Array Oper} {o : Oper} {a : Act} {w : World} {K : Act → World → Prop} {Q : Exit → Act → World → Prop} {E : Prop}
    (hg : o.guard = none) (d x : Operand) (dT sT : TypeId) (hop : o.op = Op.call { callee := Callee.builtin Builtin.copy, args := #[d, x], argTypes := #[dT, sT] })
    (v u : Value) (hd : a.eval d = v) (hx : a.eval x = u) {v' : Value} {w' : World} (hr : (Builtin.copy_ #[dT, sT] o.type #[v, u]).run P w = .ok v' w') (hK : K (a.put o.dst v') w') :
    if Region.wanted o (yielded ops a.tmps) = true then Oper.wp P o a w K Q else E := by
  have hw : Region.wanted o (yielded ops a.tmps) = true := by simp [Region.wanted, hg]
  rw [if_pos hw]
  unfold Oper.wp
  simp [execOp, hop, resolve, invoke, builtin, hd, hx, hr, Result.andThen]
  exact hK

theorem wpList_clear_run {P : Program} (w : World) {ops : Array Oper} {rest : List Oper} {o : Oper} {a : Act} {Q : Exit → Act → World → Prop} (hgd : o.guard = none) (d : Operand) (t : TypeId)
    (ho : o.op = .call { callee := .builtin .clear, args := #[d], argTypes := #[t] }) (v : Value) (hd : a.eval d = v) {v' : Value} {w' : World}
    (hr : (Builtin.clear_ #[t] o.type #[v]).run P w = .ok v' w') (h : wpList P ops Q rest (a.put o.dst v') w') : wpList P ops Q (o :: rest) a w := by
  refine wpList_plain hgd fun K hK => ?_
  unfold Oper.wp execOp
  simp only [ho, resolve, invoke, builtin, Sem.run_bind, Sem.run_pure, Result.andThen_ok, List.map_toArray, List.map_cons, List.map_nil, hd, hr]
  exact hK _ _ h
end Go.Proofs.Qxb6601392a.Bt
