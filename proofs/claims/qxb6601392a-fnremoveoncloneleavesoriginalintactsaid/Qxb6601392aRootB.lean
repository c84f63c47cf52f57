import Derived.Test.Qxb6601392aRootA
namespace Go.Proofs.Qxb6601392a.Bt
open Go.RowKit

/-- the new root above two halves -/
structure NewRoot (w4 w8 : World) (nb g1 g2 o b r : Nat) (mid : It) (p : Nat) : Prop where
  n : NodeAt w8 nb o (.slice (some ⟨g1, 0, none⟩) 1 1) (.slice (some ⟨g2, 0, none⟩) 2 2) p
  i : w8.heap[g1]? = some (.cells #[.string mid.k, .string mid.v, .int .u64 mid.r] 75)
  c : w8.heap[g2]? = some (.cells #[.pointer (some ⟨b, 0, none⟩), .pointer (some ⟨r, 0, none⟩)] 28)
  lo : w4.heap.size ≤ g1
  lt1 : g1 < g2
  lt2 : g2 < nb
  keep : Keeps (fun _ => False) w4 w8

/-! ### the walk where the root has room -/
set_option maxRecDepth 100000 in
set_option maxHeartbeats 1000000 in
theorem root_room_raw {w : World} {b o p q n : Nat} {A : Option Addr} {cv : Value} (hN : NodeAt w b o (.slice A n q) cv p) (hn : n ≤ 62) (x : It) (R : Int → Bool → World → Prop)
    (hput : ∀ w1, Below w.heap.size w w1 → Calls Try.prog 47 #[.pointer (some ⟨b, 0, none⟩), .string x.k, .agg #[.string x.v, .int .u64 x.r], .pointer (some ⟨o, 0, none⟩)] w1 fun e w9 => ∃ gr hd, e = .returned (.tuple #[.int .i64 gr, .bool hd]) ∧ R gr hd w9) :
    Calls Try.prog 33 #[.pointer (some ⟨b, 0, none⟩), .string x.k, .agg #[.string x.v, .int .u64 x.r], .pointer (some ⟨o, 0, none⟩)] w fun e w9 => ∃ gr hd, e = .returned (.tuple #[.pointer (some ⟨b, 0, none⟩), .int .i64 gr, .bool hd]) ∧ R gr hd w9 := by
  have HP := hide hput
  have HIT := hide (items_any (hN.of_block (Below.heap_alloc w (.cells #[.string x.v, .int .u64 x.r] 64) _ hN.lt)))
  have hne63 : ((n : Int) == 63) = false := by rw [beq_eq_false_iff_ne]; omega
  clear hput hN
  go_enter Try.func33, Try.ntmps33
  go_wp2_with fail
  refine HIT.out.mono ?_
  rintro e w1 ⟨rfl, rfl⟩
  go_wp2_with fail
  refine (HP.out _ ((Below.refl _ _).alloc (Nat.le_refl _) _)).mono ?_
  rintro e w9 ⟨gr, hd, rfl, hr⟩
  have HR := hide hr
  clear hr
  go_wp2_with fail
  exact bodyPost_ret (v := .tuple #[.pointer (some ⟨b, 0, none⟩), .int .i64 gr, .bool hd]) (by simp [results, Try.results33, go_sem]) rfl ⟨gr, hd, rfl, HR.out⟩

set_option maxRecDepth 100000 in
set_option maxHeartbeats 2000000 in
theorem root_split_raw {w : World} {b o p q : Nat} {A : Option Addr} {cv : Value} (hN : NodeAt w b o (.slice A 63 q) cv p) (x : It) (hp : p ≤ 4611686018427387904)
    (S : World → World → It → Nat → Prop)
    (hspl : ∀ w1, Below w.heap.size w w1 → w.heap.size < w1.heap.size → Calls Try.prog 45 #[.pointer (some ⟨b, 0, none⟩), .pointer (some ⟨o, 0, none⟩)] w1 fun e w4 => ∃ mid r, e = .returned (.tuple #[It.val mid, .pointer (some ⟨r, 0, none⟩)]) ∧ S w1 w4 mid r)
    (hS : ∀ w1 w4 mid r, Below w.heap.size w w1 → w.heap.size < w1.heap.size → S w1 w4 mid r → mid.v.size ≤ 1048576 ∧ w1.heap.size ≤ w4.heap.size ∧ w4.heap[w.heap.size]? = w1.heap[w.heap.size]? ∧ ∃ p1 p2 : Nat, w4.cell? ⟨b, 3, none⟩ = some (.int .i64 (p1 : Int)) ∧ w4.cell? ⟨r, 3, none⟩ = some (.int .i64 (p2 : Int)) ∧ p1 + 1 + p2 = p)
    (R : Nat → Int → Bool → World → Prop)
    (hput : ∀ w1 w4 mid r w8 nb g1 g2, Below w.heap.size w w1 → S w1 w4 mid r → NewRoot w4 w8 nb g1 g2 o b r mid p → Calls Try.prog 47 #[.pointer (some ⟨nb, 0, none⟩), .string x.k, .agg #[.string x.v, .int .u64 x.r], .pointer (some ⟨o, 0, none⟩)] w8 fun e w9 => ∃ gr hd, e = .returned (.tuple #[.int .i64 gr, .bool hd]) ∧ R nb gr hd w9) :
    Calls Try.prog 33 #[.pointer (some ⟨b, 0, none⟩), .string x.k, .agg #[.string x.v, .int .u64 x.r], .pointer (some ⟨o, 0, none⟩)] w fun e w9 => ∃ nb gr hd, e = .returned (.tuple #[.pointer (some ⟨nb, 0, none⟩), .int .i64 gr, .bool hd]) ∧ R nb gr hd w9 := by
  have HP := hide hput
  have HSPL := hide hspl
  have HS := hide hS
  have HIT := hide (items_any (hN.of_block (Below.heap_alloc w (.cells #[.string x.v, .int .u64 x.r] 64) _ hN.lt)))
  clear hput hN hspl hS
  go_enter Try.func33, Try.ntmps33
  go_wp2_with fail
  refine HIT.out.mono ?_
  rintro e w1 ⟨rfl, rfl⟩
  go_wp2_with fail
  have hb1 : Below w.heap.size w (w.alloc (.cells #[.string x.v, .int .u64 x.r] 64)) := (Below.refl _ _).alloc (Nat.le_refl _) _
  refine (HSPL.out _ hb1 (by simp)).mono ?_
  rintro e w4 ⟨mid, r, rfl, hs4⟩
  obtain ⟨hmv, hsz, hbox, p1, p2, c1, c2, hpp⟩ := HS.out _ _ _ _ hb1 (by simp) hs4
  have HS4 := hide hs4
  have hbox' := hbox.trans (heap_alloc_new _ _)
  have hszl : w.heap.size < w4.heap.size := by simp at hsz; omega
  have HB1 := hide hb1
  have HBOX := hide hbox'
  have HPP := hide hpp
  have hp1 : (p1 : Int) ≤ 4611686018427387904 := by omega
  have hp2 : (p2 : Int) ≤ 4611686018427387904 := by omega
  have hp3 : (p1 : Int) + 1 + (p2 : Int) ≤ 4611686018427387904 := by omega
  have hbl := cell_lt c1
  have hrl := cell_lt c2
  clear hs4 hbox hbox' hb1 hpp hsz
  unfold It.val
  obtain ⟨w5, hw5⟩ : ∃ w5, w5 = w4.alloc (.cells #[.string mid.k, .string mid.v, .int .u64 mid.r] 75) := ⟨_, rfl⟩
  have k5 : Keeps (fun _ => False) w4 w5 := by rw [hw5]; exact (Keeps.refl _ _).alloc _
  have d1 := k5.cell c1 (fun h => h)
  have d2 := k5.cell c2 (fun h => h)
  have m0 : w5.cell? ⟨w4.heap.size, 0, none⟩ = some (.string mid.k) := by rw [hw5]; exact cell_new _ _ _ 0
  have m1 : w5.cell? ⟨w4.heap.size, 1, none⟩ = some (.string mid.v) := by rw [hw5]; exact cell_new _ _ _ 1
  have m2 : w5.cell? ⟨w4.heap.size, 2, none⟩ = some (.int .u64 mid.r) := by rw [hw5]; exact cell_new _ _ _ 2
  have HK5 := hide k5
  have HW5 := hide hw5
  have HSZ : Hid (w5.heap.size = w4.heap.size + 1) := by show _ = _; rw [hw5]; simp
  clear hw5 k5
  have f64 : ∀ W, (Instr.field 64 (.agg #[.string mid.v, .int .u64 mid.r]) 0).run Try.prog W = .ok (.string mid.v) W := fun W => by rfl
  go_upto_region 3 with fail
  rw [← HW5.out]
  go_region_held3 (fun w' => w'.cell? ⟨b, 3, none⟩ = some (.int .i64 (p1 : Int)) ∧ w'.cell? ⟨r, 3, none⟩ = some (.int .i64 (p2 : Int)) ∧ w'.cell? ⟨w4.heap.size, 0, none⟩ = some (.string mid.k) ∧ w'.cell? ⟨w4.heap.size, 1, none⟩ = some (.string mid.v) ∧ w'.cell? ⟨w4.heap.size, 2, none⟩ = some (.int .u64 mid.r)) (first | go_keep | exact ⟨bcell hb6 d1, bcell hb6 d2, bcell hb6 m0, bcell hb6 m1, bcell hb6 m2⟩)
    (first
      | (go_at_call 46; refine (piecesCell_any (b := b) (p := p1) (by first | exact d1 | exact bcell hb6 d1)).mono ?_; rintro e w' ⟨rfl, rfl⟩)
      | (go_at_call 46; refine (piecesCell_any (b := r) (p := p2) (by first | exact d2 | exact bcell hb6 d2)).mono ?_; rintro e w' ⟨rfl, rfl⟩)
      | (go_at_call 43; refine (itemEntry_any mid _).mono ?_; rintro e w6 ⟨rfl, hb6⟩)
      | (go_at_call 32; refine (zzPieces_one mid.v hmv _).mono ?_; rintro e w' ⟨rfl, rfl⟩))
  have hww : IntKind.i64.wrap (IntKind.i64.wrap ((p1 : Int) + 1) + (p2 : Int)) = (p : Int) := by
    have := HPP.out
    rw [IntKind.wrap_i64 ((p1 : Int) + 1), IntKind.wrap_i64]; omega
  rw [hww]
  have k6 : Keeps (fun _ => False) w4 w' := HK5.out.drew.andThen (keeps_of_below (S := fun _ => False) hb6) (fun _ _ h => h)
  have HK6 := hide k6
  have hsz6 := k6.size
  have g0 := bcell hb6 m0
  have g1' := bcell hb6 m1
  have g2' := bcell hb6 m2
  have e0 : w'.cell? ⟨w.heap.size, 0, none⟩ = some (.string x.v) := k6.cell (by simp [World.cell?, HBOX.out]) (fun h => h)
  have e1 : w'.cell? ⟨w.heap.size, 1, none⟩ = some (.int .u64 x.r) := k6.cell (by simp [World.cell?, HBOX.out]) (fun h => h)
  clear hww hb6 k6 m0 m1 m2 d1 d2 c1 c2
  go_wp2_with fail
  refine (newNode_any _ o _ _ _ _ _ _ p).mono ?_
  rintro e w7 ⟨rfl, rfl⟩
  have hnr : NewRoot w4 (((w'.alloc (.cells #[.string mid.k, .string mid.v, .int .u64 mid.r] 75)).alloc (.cells #[.pointer (some ⟨b, 0, none⟩), .pointer (some ⟨r, 0, none⟩)] 28)).alloc (.cells #[.pointer (some ⟨o, 0, none⟩), .slice (some ⟨w'.heap.size, 0, none⟩) 1 1, .slice (some ⟨w'.heap.size + 1, 0, none⟩) 2 2, .int .i64 (p : Int)] 62)) (w'.heap.size + 1 + 1) w'.heap.size (w'.heap.size + 1) o b r mid p := by
    refine ⟨?_, ?_, ?_, hsz6, by omega, by omega, ((HK6.out.alloc _).alloc _).alloc _⟩
    · have := nodeAt_new ((w'.alloc (.cells #[.string mid.k, .string mid.v, .int .u64 mid.r] 75)).alloc (.cells #[.pointer (some ⟨b, 0, none⟩), .pointer (some ⟨r, 0, none⟩)] 28)) o (.slice (some ⟨w'.heap.size, 0, none⟩) 1 1) (.slice (some ⟨w'.heap.size + 1, 0, none⟩) 2 2) p
      simpa using this
    · exact (Below.heap_alloc _ _ _ (by simp; omega)).trans ((Below.heap_alloc _ _ _ (by simp)).trans (heap_alloc_new _ _))
    · have := heap_alloc_new (w'.alloc (.cells #[.string mid.k, .string mid.v, .int .u64 mid.r] 75)) (.cells #[.pointer (some ⟨b, 0, none⟩), .pointer (some ⟨r, 0, none⟩)] 28)
      rw [World.size_alloc] at this
      exact (Below.heap_alloc _ _ _ (by simp)).trans this
  have e0' := hnr.keep.cell (a := ⟨w.heap.size, 0, none⟩) (v := .string x.v) (by simp [World.cell?, HBOX.out]) (fun h => h)
  have e1' := hnr.keep.cell (a := ⟨w.heap.size, 1, none⟩) (v := .int .u64 x.r) (by simp [World.cell?, HBOX.out]) (fun h => h)
  have HNR := hide (HP.out _ _ _ _ _ _ _ _ HB1.out HS4.out hnr)
  simp only [World.size_alloc]
  generalize ((w'.alloc (.cells #[.string mid.k, .string mid.v, .int .u64 mid.r] 75)).alloc (.cells #[.pointer (some ⟨b, 0, none⟩), .pointer (some ⟨r, 0, none⟩)] 28)).alloc (.cells #[.pointer (some ⟨o, 0, none⟩), .slice (some ⟨w'.heap.size, 0, none⟩) 1 1, .slice (some ⟨w'.heap.size + 1, 0, none⟩) 2 2, .int .i64 (p : Int)] 62) = w8 at *
  clear hnr
  go_wp2_with fail
  refine HNR.out.mono ?_
  rintro e w9 ⟨gr, hd, rfl, hr⟩
  have HR := hide hr
  clear hr
  go_wp2_with fail
  exact bodyPost_ret (v := .tuple #[.pointer (some ⟨w'.heap.size + 1 + 1, 0, none⟩), .int .i64 gr, .bool hd]) (by simp [results, Try.results33, go_sem]) rfl ⟨_, gr, hd, rfl, HR.out⟩
end Go.Proofs.Qxb6601392a.Bt
