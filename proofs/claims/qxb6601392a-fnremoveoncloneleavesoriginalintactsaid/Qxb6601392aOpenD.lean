import Derived.Test.Qxb6601392aOpen
import Derived.Test.Qxb6601392aDelB
namespace Go.Proofs.Qxb6601392a.Bt
open Go.ChangeShapes Go.WideShapes Go.RowKit Go.Deep

theorem cells50 : Try.prog.cellsOf 50 = 2 := by kernel_rfl
theorem cells4 : Try.prog.cellsOf 4 = 1 := by kernel_rfl

section
variable {H : Type} {enc : TypeId × Value → H}

set_option maxRecDepth 100000 in
/-- one element of the script of removals -/
theorem open_del {W : World} {base : Nat} {sp : Nat → Bool} {held : Bool} {fuel : Nat} {cs : List Value} {x : DataW H × List MemPlace} (h : DataW.trod enc Try.prog W base sp held fuel 50 cs = some x) :
    ∃ y : Dl, cs = [.string y.k, .bool y.l] := by
  obtain ⟨xs, k, _, _, hl, hxl, hf⟩ := DataW.trod_struct Try.underlying50 h
  rw [cells50] at hl
  match cs, hl with
  | [v0, v1], _ =>
    match xs, hxl with
    | [y0, y1], _ =>
      have g0 := hf 0 _ rfl
      have g1 := hf 1 _ rfl
      simp [cells9, cells4] at g0 g1
      obtain ⟨s0, e0, _, _⟩ := DataW.trod_string Try.underlying9 g0
      obtain ⟨b1, e1, _⟩ := DataW.trod_bool Try.underlying4 g1
      simp at e0 e1
      subst e0 e1
      exact ⟨⟨s0, b1⟩, rfl⟩

/-- the script of removals opened -/
theorem open_dels {W : World} {base : Nat} {sp : Nat → Bool} {held : Bool} {fuel : Nat} {A : Option Addr} {len cap : Nat} {x : DataW H × List MemPlace} (h : DataW.trod enc Try.prog W base sp held fuel 44 [.slice A len cap] = some x) :
    ∃ (b off : Nat) (xs : List Dl), xs.length = len ∧ DelsAt W A cap b off xs ∧ (A = none → xs = [] ∧ cap = 0) := by
  rcases open_slice Try.underlying44 h with ⟨hc, _⟩ | ⟨a, len', cap', m, n, D, Pl, hc, hb, hl, hm, hmm, _, hx⟩
  · simp at hc
    obtain ⟨rfl, rfl, rfl⟩ := hc
    exact ⟨0, 0, [], rfl, ⟨fun k hk => by simp at hk, fun k x hx => by simp at hx, fun k x hx => by simp at hx, Nat.zero_le _⟩, fun _ => ⟨rfl, rfl⟩⟩
  · simp at hc
    obtain ⟨rfl, rfl, rfl⟩ := hc
    have hlm : len ≤ m := by rw [hmm]; split <;> omega
    have each : ∀ i, i < len → ∃ y : Dl, ∀ j, j < 2 → W.cell? (a.add (i * 2 + j)) = [Value.string y.k, .bool y.l][j]? := fun i hi => by
      obtain ⟨cs', h1, h2⟩ := hx i (by omega)
      rw [cells50] at h1
      obtain ⟨y, rfl⟩ := open_del h2
      obtain ⟨_, _, hcell⟩ := World.cells?_some h1
      refine ⟨y, fun j hj => ?_⟩
      have := hcell j hj
      rwa [add_add] at this
    obtain ⟨f, hf⟩ := @choose_lt Dl ⟨⟨⟨#[]⟩, false⟩⟩ len _ each
    obtain ⟨b, off, spot⟩ := a
    by_cases h0 : len = 0
    · subst h0
      exact ⟨0, 0, [], rfl, ⟨fun k hk => by simp at hk, fun k x hx => by simp at hx, fun k x hx => by simp at hx, hm⟩, fun e => by cases e⟩
    · have hspot : spot = none := by
        have := (hf 0 (by omega)) 0 (by omega)
        exact (by simpa [Addr.add] using World.cell?_spot this)
      subst hspot
      have hlx : ((List.range len).map f).length = len := by simp
      have hget : ∀ k x, ((List.range len).map f)[k]? = some x → k < len ∧ x = f k := fun k x hx => by
        have hk := (List.getElem?_eq_some_iff.1 hx).1
        simp at hk
        refine ⟨hk, ?_⟩
        rw [List.getElem?_map, List.getElem?_range hk] at hx
        simpa using hx.symm
      have hadd : ∀ i, (⟨b, off, none⟩ : Addr).add i = ⟨b, off + i, none⟩ := fun i => by simp [Addr.add]
      refine ⟨b, off, (List.range len).map f, hlx, ⟨fun k hk W' => ?_, fun k x hx => ?_, fun k x hx => ?_, hm⟩, fun e => by cases e⟩
      · rw [hlx] at hk
        rw [hlx, run_indexAt_slice W' 44 _ len cap .i64 k T44.ht', if_pos (by omega), T44.elem, T44.hs]
        simp [Result.andThen, Addr.add]
      · obtain ⟨hk, rfl⟩ := hget k x hx
        have := (hf k hk) 0 (by omega)
        rw [hadd] at this; exact this
      · obtain ⟨hk, rfl⟩ := hget k x hx
        have := (hf k hk) 1 (by omega)
        rw [hadd] at this; exact this
end
end Go.Proofs.Qxb6601392a.Bt
