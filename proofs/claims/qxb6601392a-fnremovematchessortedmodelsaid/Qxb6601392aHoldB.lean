import Derived.Test.Qxb6601392aHoldA
namespace Go.Proofs.Qxb6601392a.Bt
open Go.RowKit

theorem Model.on {w w' : World} {kv ev : Value} {L : List It} (h : Model w kv ev L) (hb : Below w.heap.size w w') : Model w' kv ev L :=
  h.of_block (fun b hb' => hb.block b (hb'.elim (h.k.blk b) (h.e.blk b)))

set_option maxRecDepth 100000 in
set_option maxHeartbeats 2000000 in
theorem holds_raw {w : World} {b : Nat} {kv ev : Value} {L : List It} (hM : Model w kv ev L) (hok : ∀ y ∈ L, y.ok) (hn : L.length ≤ 100000) (ht : Int)
    (hchk : Calls Try.prog 35 #[.pointer (some ⟨b, 0, none⟩), .bool true, .string ⟨#[]⟩, .bool false, .string ⟨#[]⟩, .bool false] w fun e w' => e = .returned (.tuple #[.bool true, .int .i64 ht, .int .i64 (L.length : Int)]) ∧ Below w.heap.size w w')
    (hcol : ∀ w1, Below w.heap.size w w1 → Calls Try.prog 36 #[.pointer (some ⟨b, 0, none⟩), .slice none 0 0, .slice none 0 0] w1 fun e w2 => ∃ kv2 ev2, e = .returned (.tuple #[kv2, ev2]) ∧ Model w2 kv2 ev2 L ∧ Below w1.heap.size w1 w2) :
    Calls Try.prog 15 #[.pointer (some ⟨b, 0, none⟩), kv, ev] w fun e w' => e = .returned (.bool true) ∧ Below w.heap.size w w' := by
  obtain ⟨Ak, ck, rfl, _, _⟩ := hM.k.form
  obtain ⟨Ae, ce, rfl, _, _⟩ := hM.e.form
  have HM := hide' hM
  have HOK := hide' hok
  have HCHK := hide' hchk
  have HCOL := hide' hcol
  have hn' : (L.length : Int) ≤ 100000 := by omega
  clear hM hok hchk hcol
  go_enter Try.func15, Try.ntmps15
  go_upto_block 0 with (go_at_call 35; refine HCHK.out.mono ?_; rintro e w1 ⟨rfl, hb1⟩)
  go_cut [10, 11] (fun t a wd => t = .int .i64 (L.length : Int) ∧ wd = w1)
  case first =>
    go_wp2_with fail
    go_loopw [10, 11] (fun t a w' => ∃ j : Nat, j ≤ L.length ∧ t = .int .i64 (j : Int) ∧ a = .int .i64 (j : Int) ∧ w' = w1) (fun t a w' => L.length - (intOf a).toNat)
    case atStart => exact ⟨0, by omega, rfl, rfl, rfl⟩
    case round =>
      obtain ⟨j, hjl, rfl, rfl, rfl⟩ := hrel
      by_cases hlt : j < L.length
      · have hlt' : (j : Int) < (L.length : Int) := by omega
        obtain ⟨y, hy⟩ : ∃ y, L[j]? = some y := ⟨_, List.getElem?_eq_getElem hlt⟩
        obtain ⟨ge, c', hv', k0, k1, _, _, _⟩ := HM.out.e.at hy
        injection hv' with hA1 hA3 hA2
        clear hA3
        subst hA1 hA2
        have c0 := bcell hb1 k0
        have hyv := (HOK.out y (List.mem_of_getElem? hy)).v
        have x31 := fun W => idx31 ge L.length ce j hlt W
        clear hy
        go_wp2_with (go_at_call 32; refine (zzPieces_one y.v hyv _).mono ?_; rintro e w7 ⟨rfl, hw7⟩; rw [hw7]; clear hw7 w7)
        go_roundw
        case rel => exact ⟨j + 1, by omega, by go_num, by go_num, by trivial⟩
        case measure => simp [intOf]; omega
      · obtain rfl : j = L.length := by omega
        have hd : decide ((L.length : Int) < (L.length : Int)) = false := by simp
        go_wp2_with fail
        go_meet
        case rel => exact ⟨rfl, rfl⟩
  case rest =>
    obtain ⟨rfl, hwc⟩ := hcut
    rw [hwc]
    clear hwc wc
    go_wp2_with (go_at_call 36; refine (HCOL.out _ hb1).mono ?_; rintro e w2 ⟨kv2, ev2, rfl, hM2, hb2⟩; obtain ⟨A3, c3, rfl, _, _⟩ := hM2.k.form; obtain ⟨A4, c4, rfl, _, _⟩ := hM2.e.form; have HM2 := hide' hM2; clear hM2)
    have hB2 : Below w.heap.size w w2 := hb1.trans (hb2.mono hb1.size)
    go_loopw [14] (fun a w' => ∃ j n : Nat, j ≤ L.length ∧ a = .int .i64 (j : Int) ∧ w' = w2.drewN n) (fun a w' => L.length - (intOf a).toNat)
    case atStart => exact ⟨0, 0, by omega, rfl, rfl⟩
    case round =>
      obtain ⟨j, n, hjl, rfl, rfl⟩ := hrel
      by_cases hlt : j < L.length
      · have hlt' : (j : Int) < (L.length : Int) := by omega
        obtain ⟨y, hy⟩ : ∃ y, L[j]? = some y := ⟨_, List.getElem?_eq_getElem hlt⟩
        obtain ⟨gk, c', hv', k0, _, _, _⟩ := (HM.out.on hB2).k.at hy
        injection hv' with hA1 hA3 hA2
        clear hA3
        subst hA1 hA2
        obtain ⟨ge, c', hv', e0, e1, _, _, _⟩ := (HM.out.on hB2).e.at hy
        injection hv' with hA1 hA3 hA2
        clear hA3
        subst hA1 hA2
        obtain ⟨gk2, c', hv', k0', _, _, _⟩ := HM2.out.k.at hy
        injection hv' with hA1 hA3 hA2
        clear hA3
        subst hA1 hA2
        obtain ⟨ge2, c', hv', e0', e1', _, _, _⟩ := HM2.out.e.at hy
        injection hv' with hA1 hA3 hA2
        clear hA3
        subst hA1 hA2
        have x30 := fun W => idx30 gk L.length ck j hlt W
        have x31 := fun W => idx31 ge L.length ce j hlt W
        have y30 := fun W => idx30 gk2 L.length c3 j hlt W
        have y31 := fun W => idx31 ge2 L.length c4 j hlt W
        clear hy
        go_wp2_with fail
        go_quiet (fail)
        go_wp2_with fail
        exact ⟨⟨j + 1, _, by omega, by go_num, rfl⟩, by simp [intOf]; omega⟩
      · obtain rfl : j = L.length := by omega
        have hd : decide ((L.length : Int) < (L.length : Int)) = false := by simp
        go_wp2_with fail
        go_ret
        exact ⟨rfl, below_drewN hB2 _⟩

theorem holds_any {w : World} {o B d : Nat} {c : Ch} {kv ev : Value} (h : Rep w o B d c) (hB : B ≤ w.heap.size) (hs : Sorted c.L) (hok : ∀ y ∈ c.L, y.ok) (hm : c.m ≤ 63) (hn : c.L.length ≤ 100000) (hM : Model w kv ev c.L) :
    Calls Try.prog 15 #[.pointer (some ⟨c.b, 0, none⟩), kv, ev] w fun e w' => e = .returned (.bool true) ∧ Below w.heap.size w w' := by
  refine holds_raw hM hok hn _ (check_any d w o B c true ⟨#[]⟩ ⟨#[]⟩ false false h hB hs hok hm (.inl rfl) (by decide) (by decide) (fun e => by cases e) (fun e => by cases e) (by omega)) (fun w1 hb1 => ?_)
  refine (collect_any d c (h.below hB hb1) hm w1 _ _ [] ⟨Below.refl _ _, Nat.le_refl _, model_nil w1, fun k hk => (by cases hk), fun k hk => (by cases hk)⟩ (by simp; omega)).mono ?_
  rintro e w2 ⟨kv2, ev2, rfl, hG⟩
  exact ⟨kv2, ev2, rfl, hG.m, hG.b⟩
end Go.Proofs.Qxb6601392a.Bt
