import Derived.Test.Qxb6601392aOpsB
import Derived.Deep.Slices
import Derived.ChangeSame
namespace Go.Proofs.Qxb6601392a.Bt
open Go.ChangeShapes Go.WideShapes Go.RowKit Go.Deep

theorem cells36 : Try.prog.cellsOf 36 = 3 := by kernel_rfl
theorem cells9 : Try.prog.cellsOf 9 = 1 := by kernel_rfl
theorem cells34 : Try.prog.cellsOf 34 = 1 := by kernel_rfl

section
variable {H : Type} {enc : TypeId × Value → H}

set_option maxRecDepth 100000 in
/-- one element of the script -/
theorem open_op {W : World} {base : Nat} {sp : Nat → Bool} {held : Bool} {fuel : Nat} {cs : List Value} {x : DataW H × List MemPlace} (h : DataW.trod enc Try.prog W base sp held fuel 36 cs = some x) :
    ∃ y : It, cs = y.cells ∧ 0 ≤ y.r ∧ y.r ≤ 18446744073709551615 := by
  obtain ⟨xs, k, _, _, hl, hxl, hf⟩ := DataW.trod_struct Try.underlying36 h
  rw [cells36] at hl
  match cs, hl with
  | [v0, v1, v2], _ =>
    match xs, hxl with
    | [y0, y1, y2], _ =>
      have g0 := hf 0 _ rfl
      have g1 := hf 1 _ rfl
      have g2 := hf 2 _ rfl
      simp [cells9, cells34] at g0 g1 g2
      obtain ⟨s0, e0, _, _⟩ := DataW.trod_string Try.underlying9 g0
      obtain ⟨s1, e1, _, _⟩ := DataW.trod_string Try.underlying9 g1
      obtain ⟨n, e2, _, hwf⟩ := DataW.trod_int Try.underlying34 g2
      simp at e0 e1 e2
      subst e0 e1 e2
      have hw := Bool.and_eq_true_iff.1 hwf
      have h1 : IntKind.u64.min = 0 := rfl
      have h2 : IntKind.u64.max = 18446744073709551615 := rfl
      have hw1 := of_decide_eq_true hw.1
      have hw2 := of_decide_eq_true hw.2
      rw [h1] at hw1
      rw [h2] at hw2
      exact ⟨⟨s0, s1, n⟩, rfl, hw1, hw2⟩

/-- the script opened -/
theorem open_ops {W : World} {base : Nat} {sp : Nat → Bool} {held : Bool} {fuel : Nat} {A : Option Addr} {len cap : Nat} {x : DataW H × List MemPlace} (h : DataW.trod enc Try.prog W base sp held fuel 22 [.slice A len cap] = some x) :
    ∃ (b off : Nat) (xs : List It), xs.length = len ∧ OpsAt W A cap b off xs ∧ (A = none → xs = [] ∧ cap = 0) := by
  rcases open_slice Try.underlying22 h with ⟨hc, _⟩ | ⟨a, len', cap', m, n, D, Pl, hc, hb, hl, hm, hmm, _, hx⟩
  · simp at hc
    obtain ⟨rfl, rfl, rfl⟩ := hc
    exact ⟨0, 0, [], rfl, ⟨fun k hk => by simp at hk, fun k x hx => by simp at hx, fun k x hx => by simp at hx, fun k x hx => by simp at hx, fun x hx => by simp at hx, Nat.zero_le _⟩, fun _ => ⟨rfl, rfl⟩⟩
  · simp at hc
    obtain ⟨rfl, rfl, rfl⟩ := hc
    have hlm : len ≤ m := by rw [hmm]; split <;> omega
    have each : ∀ i, i < len → ∃ y : It, (∀ j, j < 3 → W.cell? (a.add (i * 3 + j)) = y.cells[j]?) ∧ 0 ≤ y.r ∧ y.r ≤ 18446744073709551615 := fun i hi => by
      obtain ⟨cs', h1, h2⟩ := hx i (by omega)
      rw [cells36] at h1
      obtain ⟨y, rfl, hr⟩ := open_op h2
      obtain ⟨_, _, hcell⟩ := World.cells?_some h1
      refine ⟨y, fun j hj => ?_, hr⟩
      have := hcell j hj
      rwa [add_add] at this
    obtain ⟨f, hf⟩ := @choose_lt It ⟨⟨⟨#[]⟩, ⟨#[]⟩, 0⟩⟩ len _ each
    obtain ⟨b, off, spot⟩ := a
    by_cases h0 : len = 0
    · subst h0
      exact ⟨0, 0, [], rfl, ⟨fun k hk => by simp at hk, fun k x hx => by simp at hx, fun k x hx => by simp at hx, fun k x hx => by simp at hx, fun x hx => by simp at hx, hm⟩, fun e => by cases e⟩
    · have hspot : spot = none := by
        have := (hf 0 (by omega)).1 0 (by omega)
        exact (by simpa [Addr.add] using World.cell?_spot this)
      subst hspot
      have hlx : ((List.range len).map f).length = len := by simp
      have hget : ∀ k x, ((List.range len).map f)[k]? = some x → k < len ∧ x = f k := fun k x hx => by
        have hk := (List.getElem?_eq_some_iff.1 hx).1
        simp at hk
        refine ⟨hk, ?_⟩
        rw [List.getElem?_map, List.getElem?_range hk] at hx
        simpa using hx.symm
      have hadd : ∀ i, (⟨b, off, none⟩ : Addr).add i = ⟨b, off + i, none⟩ := fun i => by simp [Addr.add]
      refine ⟨b, off, (List.range len).map f, hlx, ⟨fun k hk W' => ?_, fun k x hx => ?_, fun k x hx => ?_, fun k x hx => ?_, fun x hx => ?_, hm⟩, fun e => by cases e⟩
      · rw [hlx] at hk
        rw [hlx, run_indexAt_slice W' 22 _ len cap .i64 k T22.ht', if_pos (by omega), T22.elem, T22.hs]
        simp [Result.andThen, Addr.add]
      · obtain ⟨hk, rfl⟩ := hget k x hx
        have := (hf k hk).1 0 (by omega)
        rw [hadd] at this; exact this
      · obtain ⟨hk, rfl⟩ := hget k x hx
        have := (hf k hk).1 1 (by omega)
        rw [hadd] at this; exact this
      · obtain ⟨hk, rfl⟩ := hget k x hx
        have := (hf k hk).1 2 (by omega)
        rw [hadd] at this; exact this
      · obtain ⟨i, hi, rfl⟩ := List.mem_map.1 hx
        exact (hf i (List.mem_range.1 hi)).2
end
end Go.Proofs.Qxb6601392a.Bt
