import Derived.Test.Qxb6601392aStepA
import Derived.Test.Qxb6601392aOpsC
namespace Go.Proofs.Qxb6601392a.Bt
open Go.RowKit

/-- an empty tree: one node, just made -/
theorem root_new (w : World) (o : Nat) (B : Nat) (hB : B ≤ w.heap.size) (ho : OwnerAt w o) :
    St (w.alloc (.cells #[.pointer (some ⟨o, 0, none⟩), .slice none 0 0, .slice none 0 0, .int .i64 ((0 : Nat) : Int)] 62)) o B 0 ⟨w.heap.size, 0, [], fun y => y = w.heap.size, false⟩ (.slice none 0 0) (.slice none 0 0) := by
  have hol : o < w.heap.size := (Array.getElem?_eq_some_iff.1 ho).1
  refine ⟨⟨⟨o, .slice none 0 0, .slice none 0 0, nodeAt_new w o _ _ 0, ⟨rfl, .inl ⟨rfl, rfl⟩⟩, ⟨rfl, .inl ⟨rfl, rfl⟩⟩, rfl, .inr ⟨rfl, rfl, fun y => ?_, fun y hy => ?_, ?_, ?_, ?_, ?_, List.Pairwise.nil⟩⟩, by simp; omega, (Below.heap_alloc _ _ _ hol).trans ho, rfl, List.Pairwise.nil, fun y hy => (by cases hy), by show 0 ≤ 63; omega, fun h => by omega⟩, model_nil _, fun k hk => ?_⟩
  · simp [Value.ownBlock]
  · have hy : y = w.heap.size := hy
    omega
  · simp [Value.ownBlock]
  · simp [Value.ownBlock]
  · intro y hy; simp [Value.ownBlock] at hy
  · intro k hk; cases hk
  · rcases hk with hk | hk <;> simp [Value.ownBlock] at hk

/-- what a loop over a script of puts holds -/
def Loop (w1 w' : World) (o B : Nat) (n : Nat) (rv kv ev : Value) : Prop :=
  ∃ d c, rv = .pointer (some ⟨c.b, 0, none⟩) ∧ St w' o B d c kv ev ∧ c.L.length ≤ n ∧ Below B w1 w'

theorem Loop.step {w1 w w' : World} {o B n d : Nat} {c : Ch} {kv ev : Value} (hS : St w o B d c kv ev) (hn : c.L.length ≤ n) (hB : Below B w1 w) {x : It} {nb : Nat} {kv' ev' : Value} (h : StepPost w o B c kv ev x nb kv' ev' w') :
    ∃ d' c', c'.b = nb ∧ St w' o B d' c' kv' ev' ∧ c'.L.length ≤ n + 1 ∧ Below B w1 w' := by
  obtain ⟨d', c', q1, q2, q3, q4, q5⟩ := h
  refine ⟨d', c', q1, q2, ?_, hB.trans (q5.below (fun k hk => ?_) hS.root.hB)⟩
  · rw [q3]; have := (ins_len x c.L).2; omega
  · rcases hk with hk | hk
    · exact (hS.root.rep.FB k hk).1
    · exact (hS.sep k hk).2.1

set_option maxRecDepth 100000 in
set_option maxHeartbeats 2000000 in
theorem law3_any {w : World} {A : Option Addr} {cap b off : Nat} {xs : List It} (h : OpsAt w A cap b off xs) (hnil : A = none → xs = [] ∧ cap = 0) :
    Calls Try.prog 3 #[.slice A xs.length cap] w fun e w' => e = .returned (.bool true) ∧ Below w.heap.size w w' := by
  have HO := hide' h
  have HNIL := hide' hnil
  clear h hnil
  go_enter Try.func3, Try.ntmps3
  go_upto_region 3 with (go_at_call 9; refine (bytes9_any (by exact HO.out)).mono ?_; rintro e w0 ⟨r, rfl, hw, hsh⟩; rw [hw]; clear hw w0; have HSH := hide' hsh; clear hsh; cases r)
  · go_ret
    exact ⟨rfl, Below.refl _ _⟩
  have HS : Hid (Short xs) := HSH.out trivial
  clear HSH
  by_cases hlen : xs.length ≤ 4096
  rotate_left
  · have hlen' : (4096 : Int) < (xs.length : Int) := by omega
    go_wp2_with fail
    go_ret
    exact ⟨rfl, Below.refl _ _⟩
  have hlen' : (xs.length : Int) ≤ 4096 := by omega
  have hld : decide ((4096 : Int) < (xs.length : Int)) = false := decide_eq_false (by omega)
  go_upto_if 19 with (go_at_call 10; refine (opsBytes_any (by exact HO.out) HS.out (by omega)).mono ?_; rintro e w0 ⟨t, ht, rfl, n, hw⟩; rw [hw]; clear hw w0)
  have ht' : (t : Int) ≤ 1048577 := by omega
  by_cases ht2 : t ≤ 1048576
  rotate_left
  · have ht3 : (1048576 : Int) < (t : Int) := by omega
    go_wp2_with fail
    go_ret
    exact ⟨rfl, below_drewN (Below.refl _ _) _⟩
  have ht3 : (t : Int) ≤ 1048576 := by omega
  have ht4 : decide ((1048576 : Int) < (t : Int)) = false := decide_eq_false (by omega)
  have HON : Hid (OpsAt (w.drewN n) A cap b off xs) := HO.out.below (below_drewN (Below.refl _ _) _)
  go_wp2_with (first
    | (go_at_call 11; refine (copyOps_any (by exact HON.out) HNIL.out hlen).mono ?_; rintro e w1 ⟨A1, cap1, b1, rfl, hO1, hB1⟩; have HO1 := hide' hO1; have HB1 := hide' hB1; clear hO1 hB1)
    | (go_at_call 12; refine (newOwner_any _).mono ?_; rintro e w2 ⟨rfl, hw2⟩; rw [hw2]; clear hw2 w2)
    | (go_at_call 13; refine (newNode_any _ _ _ _ _ _ _ _ 0).mono ?_; rintro e w3 ⟨rfl, hw3⟩; rw [hw3]; clear hw3 w3))
  go_loopw [4, 5, 6, 7, 8] (fun rv kv ev a ok w' => ∃ j : Nat, j ≤ xs.length ∧ a = .int .i64 (j : Int) ∧ Loop w1 w' w1.heap.size w1.heap.size j rv kv ev) (fun rv kv ev a ok w' => xs.length - (intOf a).toNat)
  case atStart =>
    have hst := root_new (w1.alloc (.cells #[.int .u8 0] 58)) w1.heap.size w1.heap.size (by simp) (heap_alloc_new _ _)
    refine ⟨0, by omega, rfl, 0, _, ?_, hst, by simp, ((Below.refl _ _).alloc (Nat.le_refl _) _).alloc (by simp) _⟩
    simp
  case round =>
    obtain ⟨j, hjl, rfl, d, c, rfl, hSt, hcn, hBr⟩ := hrel
    have HST := hide' hSt
    have HBR := hide' hBr
    clear hSt hBr
    by_cases hlt : j < xs.length
    · have hlt' : (j : Int) < (xs.length : Int) := by omega
      obtain ⟨y, hy⟩ : ∃ y, xs[j]? = some y := ⟨_, List.getElem?_eq_getElem hlt⟩
      have hOr := HO1.out.below HBR.out
      have c0 := hOr.c0 j y hy
      have c1 := hOr.c1 j y hy
      have c2 := hOr.c2 j y hy
      have x22 := hOr.ix j hlt
      simp only [Nat.zero_add] at c0 c1 c2 x22
      have HYOK := hide' (HS.out.ok HO.out y (List.mem_of_getElem? hy))
      have HSTEP := hide' (putStep_any HST.out (by omega) y HYOK.out)
      clear hy hOr
      go_wp2_with (first
        | (go_at_call 14; refine HSTEP.out.mono ?_; rintro e w5 ⟨nb, kv', ev', rfl, hsp⟩; obtain ⟨d', c', rfl, hS5, hl5, hB5⟩ := Loop.step HST.out hcn HBR.out hsp; have HS5 := hide' hS5; have HB5 := hide' hB5; clear hS5 hB5 hsp)
        | (go_at_call 15; refine (holds_any HS5.out.root.rep HS5.out.root.hB HS5.out.root.sorted HS5.out.root.ok HS5.out.root.m63 (by omega) HS5.out.m).mono ?_; rintro e w6 ⟨rfl, hb6⟩; have HB6 := hide' hb6; clear hb6))
      go_roundw
      case rel =>
        have h6 := HB6.out
        have hs5 := HS5.out
        exact ⟨j + 1, by omega, by go_num, d', c', rfl, ⟨hs5.root.below h6, hs5.m.on h6, hs5.sep⟩, hl5, HB5.out.trans (h6.mono hs5.root.hB)⟩
      case measure => simp [intOf]; omega
    · obtain rfl : j = xs.length := by omega
      have hd : decide ((xs.length : Int) < (xs.length : Int)) = false := by simp
      go_wp2_with fail
      go_ret
      have hb1 : Below w.heap.size w w1 := (below_drewN (Below.refl _ w) n).trans HB1.out
      exact ⟨rfl, hb1.trans (HBR.out.mono hb1.size)⟩
end Go.Proofs.Qxb6601392a.Bt
