import Derived.Test.Qxb6601392aModelA
import Derived.Deep.CutBlock
namespace Go.Proofs.Qxb6601392a.Bt
open Go.RowKit

theorem OwnK.setSame {w : World} {v : Value} {L : List It} (h : OwnK w v L) {i : Nat} {x y : It} (hy : L[i]? = some y) (hk : y.k = x.k) : OwnK w v (L.set i x) := by
  have e : kcells (L.set i x) = kcells L := by
    rw [kcells_set, ← hk]
    obtain ⟨h, rfl⟩ := List.getElem?_eq_some_iff.1 hy
    have : (kcells L)[i]'(by rw [kcells_len]; exact h) = .string L[i].k := by simp [kcells]
    rw [← this]
    exact List.set_getElem_self _
  unfold OwnK; rw [List.length_set, e]; exact h

set_option maxRecDepth 100000 in
set_option maxHeartbeats 1000000 in
theorem modelPut_found {w : World} {kv ev : Value} {L : List It} (h : Model w kv ev L) (hs : Sorted L) (hn : L.length ≤ 100000) (x : It) (i : Nat) (hP : Pos L x.key i true) :
    Calls Try.prog 34 #[kv, ev, .string x.k, .agg #[.string x.v, .int .u64 x.r]] w fun e w' => e = .returned (.tuple #[kv, ev]) ∧ Model w' kv ev (L.set i x) ∧ Keeps (fun k => ev.ownBlock = some k) w w' := by
  obtain ⟨y, hy, hyk⟩ := hP.found.1 rfl
  have hil : i < L.length := (List.getElem?_eq_some_iff.1 hy).1
  have hil' : (i : Int) < (L.length : Int) := by omega
  have hn' : (L.length : Int) ≤ 100000 := by omega
  obtain ⟨gk, ck, rfl, _, _, hck, hckm⟩ := h.k.at hy
  obtain ⟨ge, ce, rfl, e0, e1, ef, hce, hcem⟩ := h.e.at hy
  have hgel : ge < w.heap.size := cell_lt e0
  have HM := hide' h
  have HY := hide' hy
  have HK : Hid (y.k = x.k) := bytes_inj hyk
  have x31 := fun W => idx31 ge L.length ce i hil W
  have HIX := hide' (fun W (hW : OwnK W (.slice (some ⟨gk, 0, none⟩) L.length ck) L) => modelIndex_any W _ L hW hs hn x.k i true hP i rfl)
  have hne : ge ≠ w.heap.size := by omega
  have hfr := ef
  clear h hy hyk hs hP ef
  go_enter Try.func34, Try.ntmps34
  go_wp2_with fail
  refine (HIX.out _ (HM.out.k.of_block (fun k hk => Below.heap_alloc _ _ _ (HM.out.k.blk k hk)))).mono ?_
  rintro e w1 ⟨rfl, rfl⟩
  go_wp2_with fail
  go_ret2
  have k0 : Keeps (fun k => (Value.slice (some ⟨ge, 0, none⟩) L.length ce).ownBlock = some k) w ((w.setCell ⟨ge, i * 2, none⟩ (.string x.v)).setCell ⟨ge, i * 2 + 1, none⟩ (.int .u64 x.r)) := ((Keeps.refl (fun k => (Value.slice (some ⟨ge, 0, none⟩) L.length ce).ownBlock = some k) w).setCell (p := ⟨ge, i * 2, none⟩) (.inl rfl) _).setCell (p := ⟨ge, i * 2 + 1, none⟩) (.inl rfl) _
  have m0 : Model ((w.setCell ⟨ge, i * 2, none⟩ (.string x.v)).setCell ⟨ge, i * 2 + 1, none⟩ (.int .u64 x.r)) (.slice (some ⟨gk, 0, none⟩) L.length ck) (.slice (some ⟨ge, 0, none⟩) L.length ce) (L.set i x) :=
    ⟨(HM.out.k.setSame HY.out HK.out).of_block (fun k hk => k0.block k (HM.out.k.blk k hk) (HM.out.d k hk)), HM.out.e.put i x, HM.out.d⟩
  exact ⟨rfl, m0.of_block (fun b hb => Below.heap_alloc _ _ _ (hb.elim (m0.k.blk b) (m0.e.blk b))), k0.alloc _⟩

theorem cell_new (w : World) (cs : Array Value) (t : TypeId) (j : Nat) : (w.alloc (.cells cs t)).cell? ⟨w.heap.size, j, none⟩ = cs[j]? := by
  have h : (w.alloc (.cells cs t)).heap[w.heap.size]? = some (.cells cs t) := heap_alloc_new _ _
  unfold World.cell?
  rw [h]
  rfl
theorem OwnK.cell {w : World} {g n cap : Nat} {L : List It} (h : OwnK w (.slice (some ⟨g, 0, none⟩) n cap) L) {k : Nat} {x : It} (hx : L[k]? = some x) : w.cell? ⟨g, k, none⟩ = some (.string x.k) ∧ ∀ j, w.frozen? ⟨g, j, none⟩ = false := by
  obtain ⟨g', c', hv, h1, h2, _, _⟩ := h.at hx
  cases hv
  exact ⟨h1, h2⟩
theorem OwnE.cell {w : World} {g n cap : Nat} {L : List It} (h : OwnE w (.slice (some ⟨g, 0, none⟩) n cap) L) {k : Nat} {x : It} (hx : L[k]? = some x) : w.cell? ⟨g, k * 2, none⟩ = some (.string x.v) ∧ w.cell? ⟨g, k * 2 + 1, none⟩ = some (.int .u64 x.r) ∧ ∀ j, w.frozen? ⟨g, j, none⟩ = false := by
  obtain ⟨g', c', hv, h1, h2, h3, _, _⟩ := h.at hx
  cases hv
  exact ⟨h1, h2, h3⟩
theorem OwnK.put' {g n cap : Nat} {w : World} {L : List It} (h : OwnK w (.slice (some ⟨g, 0, none⟩) n cap) L) (i : Nat) (x : It) : OwnK (w.setCell ⟨g, i, none⟩ (.string x.k)) (.slice (some ⟨g, 0, none⟩) n cap) (L.set i x) := by
  obtain ⟨A, c, hv, _, _⟩ := h.form
  cases hv
  exact h.put i x
theorem OwnE.put' {g n cap : Nat} {w : World} {L : List It} (h : OwnE w (.slice (some ⟨g, 0, none⟩) n cap) L) (i : Nat) (x : It) : OwnE ((w.setCell ⟨g, i * 2, none⟩ (.string x.v)).setCell ⟨g, i * 2 + 1, none⟩ (.int .u64 x.r)) (.slice (some ⟨g, 0, none⟩) n cap) (L.set i x) := by
  obtain ⟨A, c, hv, _, _⟩ := h.form
  cases hv
  exact h.put i x
def zIt : It := ⟨⟨#[]⟩, ⟨#[]⟩, 0⟩
theorem shift_step (L : List It) (q : Nat) (z y : It) (hy : L[q]? = some y) : (L.take (q + 1) ++ z :: L.drop (q + 1)).set (q + 1) y = L.take q ++ y :: L.drop q := by
  obtain ⟨h, rfl⟩ := List.getElem?_eq_some_iff.1 hy
  have hl : (L.take (q + 1)).length = q + 1 := by rw [List.length_take]; omega
  rw [List.set_append_right _ _ (by omega), hl, Nat.sub_self, List.set_cons_zero, List.take_succ_eq_append_getElem h, List.append_assoc, List.drop_eq_getElem_cons h]
  rfl

set_option maxRecDepth 100000 in
set_option maxHeartbeats 1000000 in
theorem modelPut_new {w : World} {kv ev : Value} {L : List It} (h : Model w kv ev L) (hs : Sorted L) (hn : L.length ≤ 100000) (hok : ∀ y ∈ L, y.ok) (x : It) (hx : x.ok) (i : Nat) (hP : Pos L x.key i false) :
    Calls Try.prog 34 #[kv, ev, .string x.k, .agg #[.string x.v, .int .u64 x.r]] w fun e w' => ∃ kv' ev', e = .returned (.tuple #[kv', ev']) ∧ Model w' kv' ev' (L.take i ++ x :: L.drop i) ∧ Keeps (fun k => kv.ownBlock = some k ∨ ev.ownBlock = some k) w w' ∧
      (∀ k, (kv'.ownBlock = some k ∨ ev'.ownBlock = some k) → (kv.ownBlock = some k ∨ ev.ownBlock = some k) ∨ w.heap.size ≤ k) := by
  have hn' : (L.length : Int) ≤ 100000 := by omega
  obtain ⟨Ak, ck, rfl, hck, hckm⟩ := h.k.form
  obtain ⟨Ae, ce, rfl, hce, hcem⟩ := h.e.form
  have hil := hP.le
  have HM := hide' h
  have HOK := hide' hok
  have HX := hide' hx
  have HP := hide' hP
  have HIX := hide' (fun W (hW : OwnK W (.slice Ak L.length ck) L) => modelIndex_any W _ L hW hs hn x.k i false hP (-1) rfl)
  clear h hs hP hok hx
  go_enter Try.func34, Try.ntmps34
  go_wp2_with fail
  refine (HIX.out _ (HM.out.k.of_block (fun k hk => Below.heap_alloc _ _ _ (HM.out.k.blk k hk)))).mono ?_
  rintro e w1 ⟨rfl, rfl⟩
  go_upto_block 0 with fail
  go_cut [11] (fun a wc => a = .int .i64 i ∧ Below w.heap.size w wc ∧ wc.heap.size = w.heap.size + 1 ∧ wc.heap[w.heap.size]? = some (.cells #[.string x.v, .int .u64 x.r] 64))
  case first =>
    go_wp2_with fail
    go_loopw [11] (fun a w' => ∃ p n : Nat, p ≤ i ∧ a = .int .i64 p ∧ w' = (w.alloc (.cells #[.string x.v, .int .u64 x.r] 64)).drewN n) (fun a w' => i - (intOf a).toNat)
    case atStart => exact ⟨0, 0, by omega, rfl, rfl⟩
    case round =>
      obtain ⟨p, n, hpi, rfl, rfl⟩ := hrel
      by_cases hpl : p < L.length
      · have hpl' : (p : Int) < (L.length : Int) := by omega
        obtain ⟨y, hy⟩ : ∃ y, L[p]? = some y := ⟨_, List.getElem?_eq_getElem hpl⟩
        obtain ⟨gk, ck', hv', c0, _, _, _⟩ := HM.out.k.at hy
        injection hv' with hA1 _ hA2
        subst hA1 hA2
        have hgl := cell_lt c0
        have c0' : (w.alloc (.cells #[.string x.v, .int .u64 x.r] 64)).cell? ⟨gk, p, none⟩ = some (.string y.k) := bcell ((Below.refl _ _).alloc (Nat.le_refl _) _) c0
        have x30 := fun W => idx30 gk L.length ck p hpl W
        have HY := hide' hy
        have HLESS := hide' (fun W => less_any y.k x.k (HOK.out y (List.mem_of_getElem? hy)).k HX.out.k W)
        clear hy c0
        by_cases hlt : p < i
        · have hk := HP.out.lt p y HY.out hlt
          have HK : Hid (klt y.k.data.toList x.k.data.toList = true) := hk
          clear hk
          go_wp2_with fail
          refine (HLESS.out _).mono ?_
          rintro e w2 ⟨rfl, n2, rfl⟩
          rw [HK.out]
          go_wp2_with fail
          go_roundw
          case rel => exact ⟨p + 1, _, by omega, by go_num, rfl⟩
          case measure => simp [intOf]; omega
        · have HK : Hid (klt y.k.data.toList x.k.data.toList = false) := HP.out.ge p y HY.out (by omega)
          obtain rfl : p = i := by omega
          go_wp2_with fail
          refine (HLESS.out _).mono ?_
          rintro e w2 ⟨rfl, n2, rfl⟩
          rw [HK.out]
          go_wp2_with fail
          go_meet
          case rel => exact ⟨rfl, below_drewN ((Below.refl _ _).alloc (Nat.le_refl _) _) _, World.size_alloc _ _, heap_alloc_new _ _⟩
      · obtain rfl : p = i := by omega
        have hd : decide ((p : Int) < (L.length : Int)) = false := decide_eq_false (by omega)
        go_wp2_with fail
        go_meet
        case rel => exact ⟨rfl, below_drewN ((Below.refl _ _).alloc (Nat.le_refl _) _) _, World.size_alloc _ _, heap_alloc_new _ _⟩
  case rest =>
    obtain ⟨rfl, hbw, hsz, hbox⟩ := hcut
    have hMc : Model wc (.slice Ak L.length ck) (.slice Ae L.length ce) L := HM.out.of_block (fun b hb => hbw.block b (hb.elim (HM.out.k.blk b) (HM.out.e.blk b)))
    obtain ⟨v1, wA, hA1, rA, kA, bA⟩ := append_own T30 (wc.alloc (.cells #[.string ⟨#[]⟩] 9)) (hMc.k.of_block (fun k hk => Below.heap_alloc _ _ _ (hMc.k.blk k hk))) ⟨wc.heap.size, 0, none⟩ 1 1 [.string ⟨#[]⟩] rfl (fun j u hu => by
      cases j with
      | zero => simp at hu; subst hu; exact cell_new _ _ _ 0
      | succ j => simp at hu) (by simp; rfl) (by omega) 30
    have rK : OwnK wA v1 (L ++ [zIt]) := by
      unfold OwnK; rw [kcells_append, List.length_append]; exact rA
    have hEA : OwnE wA (.slice Ae L.length ce) L := hMc.e.of_block (fun k hk => (kA.block k (by have := hMc.e.blk k hk; simp; omega) (fun h => hMc.d k h hk)).trans (Below.heap_alloc _ _ _ (hMc.e.blk k hk)))
    obtain ⟨v2, wB, hA2, rB, kB, bB⟩ := append_own T31 (wA.alloc (.cells #[.string ⟨#[]⟩, .int .u64 0] 64)) (hEA.of_block (fun k hk => Below.heap_alloc _ _ _ (hEA.blk k hk))) ⟨wA.heap.size, 0, none⟩ 1 1 [.string ⟨#[]⟩, .int .u64 0] rfl (fun j u hu => by
      rcases j with _ | _ | j
      · simp at hu; subst hu; exact cell_new _ _ _ 0
      · simp at hu; subst hu; exact cell_new _ _ _ 1
      · simp at hu) (by simp; exact ⟨rfl, rfl⟩) (by omega) 31
    have rE : OwnE wB v2 (L ++ [zIt]) := by
      unfold OwnE; rw [ecells_append, List.length_append]; exact rB
    obtain ⟨gk, ck1, rfl, k0, kf, hck1, hckm1⟩ := rK.at (k := L.length) (x := zIt) (by simp)
    obtain ⟨ge, ce1, rfl, e0, e1, ef, hce1, hcem1⟩ := rE.at (k := L.length) (x := zIt) (by simp)
    simp only [List.length_append, List.length_singleton] at hA1 hA2 hck1 hce1
    have hszA := kA.size
    have hszB := kB.size
    simp only [World.size_alloc] at hszA hszB
    have hgK : ∀ k, (Value.slice (some ⟨gk, 0, none⟩) (L.length + 1) ck1).ownBlock = some k → (Value.slice Ak L.length ck).ownBlock = some k ∨ (w.heap.size + 2 ≤ k ∧ k < wA.heap.size) := fun k hk => by
      have hl : k < wA.heap.size := rK.blk k (by rw [List.length_append, List.length_singleton]; exact hk)
      rcases bA with e | e
      · exact .inl (e ▸ hk)
      · right
        simp only [List.length_append, List.length_singleton] at e
        rw [hk] at e
        injection e with e
        simp at e
        omega
    have hgE : ∀ k, (Value.slice (some ⟨ge, 0, none⟩) (L.length + 1) ce1).ownBlock = some k → (Value.slice Ae L.length ce).ownBlock = some k ∨ wA.heap.size + 1 ≤ k := fun k hk => by
      rcases bB with e | e
      · exact .inl (e ▸ hk)
      · right
        simp only [List.length_append, List.length_singleton] at e
        rw [hk] at e
        injection e with e
        simp at e
        omega
    have hKl : ∀ k, (Value.slice Ak L.length ck).ownBlock = some k → k < w.heap.size := HM.out.k.blk
    have hEl : ∀ k, (Value.slice Ae L.length ce).ownBlock = some k → k < w.heap.size := HM.out.e.blk
    have hd0 : ∀ b, (Value.slice (some ⟨gk, 0, none⟩) (L.length + 1) ck1).ownBlock = some b → (Value.slice (some ⟨ge, 0, none⟩) (L.length + 1) ce1).ownBlock ≠ some b := fun b hb hb' => by
      rcases hgK b hb with h1 | h1
      · rcases hgE b hb' with h2 | h2
        · exact hMc.d b h1 h2
        · have := hKl b h1; omega
      · rcases hgE b hb' with h2 | h2
        · have := hEl b h2; omega
        · omega
    have hKB' : OwnK wB (.slice (some ⟨gk, 0, none⟩) (L.length + 1) ck1) (L ++ [zIt]) := by
      have : OwnK wA (.slice (some ⟨gk, 0, none⟩) (L.length + 1) ck1) (L ++ [zIt]) := by
        rw [List.length_append, List.length_singleton] at rK; exact rK
      exact this.of_block (fun k hk => (kB.block k (by have := this.blk k hk; simp; omega) (fun h => by
        rcases hgK k hk with h1 | h1
        · exact hMc.d k h1 h
        · have := hEl k h; omega)).trans (Below.heap_alloc _ _ _ (this.blk k hk)))
    have hMB : Model wB (.slice (some ⟨gk, 0, none⟩) (L.length + 1) ck1) (.slice (some ⟨ge, 0, none⟩) (L.length + 1) ce1) (L ++ [zIt]) := ⟨hKB', by
      rw [List.length_append, List.length_singleton] at rE; exact rE, hd0⟩
    have HMB := hide' hMB
    have hkW : Keeps (fun k => (Value.slice Ak L.length ck).ownBlock = some k ∨ (Value.slice Ae L.length ce).ownBlock = some k) w wB :=
      ((((keeps_of_below hbw).alloc _).andThen kA (fun k _ h => .inl h)).alloc _).andThen kB (fun k _ h => .inr h)
    have HKK := hide' hkW
    have hGG : (∀ k, k < w.heap.size → (k = gk ∨ k = ge) → ((Value.slice Ak L.length ck).ownBlock = some k ∨ (Value.slice Ae L.length ce).ownBlock = some k)) ∧
      (∀ k, ((Value.slice (some ⟨gk, 0, none⟩) (L.length + 1) ck1).ownBlock = some k ∨ (Value.slice (some ⟨ge, 0, none⟩) (L.length + 1) ce1).ownBlock = some k) → ((Value.slice Ak L.length ck).ownBlock = some k ∨ (Value.slice Ae L.length ce).ownBlock = some k) ∨ w.heap.size ≤ k) := by
      refine ⟨fun k hk h => ?_, fun k h => ?_⟩
      · rcases h with h | h
        · rcases hgK k (by rw [h]; rfl) with h1 | h1
          · exact .inl h1
          · omega
        · rcases hgE k (by rw [h]; rfl) with h1 | h1
          · exact .inr h1
          · omega
      · rcases h with h | h
        · rcases hgK k h with h1 | h1
          · exact .inl (.inl h1)
          · exact .inr (by omega)
        · rcases hgE k h with h1 | h1
          · exact .inl (.inr h1)
          · exact .inr (by omega)
    have HGG := hide' hGG
    have hBX : ∀ w', Keeps (fun k => k = gk ∨ k = ge) wB w' → w'.heap[w.heap.size]? = some (.cells #[.string x.v, .int .u64 x.r] 64) ∧ gk ≠ w.heap.size ∧ ge ≠ w.heap.size := by
      intro w' hk
      have h1 : gk ≠ w.heap.size := fun e => by
        rcases hgK gk rfl with h | h
        · have := hKl _ h; omega
        · omega
      have h2 : ge ≠ w.heap.size := fun e => by
        rcases hgE ge rfl with h | h
        · have := hEl _ h; omega
        · omega
      refine ⟨(hk.block _ (by omega) (by rintro (h | h); exact h1 h.symm; exact h2 h.symm)).trans ((kB.block _ (by simp; omega) (fun h => by have := hEl _ h; omega)).trans ((Below.heap_alloc _ _ _ (by omega)).trans ((kA.block _ (by simp; omega) (fun h => by have := hKl _ h; omega)).trans ((Below.heap_alloc _ _ _ (by omega)).trans hbox)))), h1, h2⟩
    have HBX := hide' hBX
    clear hMB hkW hGG hBX hKB' hd0 hgK hgE hKl hEl
    have HSZ := hide' hsz
    have HBOX := hide' hbox
    have HBW := hide' hbw
    have HRK := hide' rK
    have HRE := hide' rE
    have HKA := hide' kA
    have HKB := hide' kB
    have HbA := hide' bA
    have HbB := hide' bB
    have HMC := hide' hMc
    clear k0 kf e0 e1 ef hsz hbox hbw rK rE kA kB bA bB rA rB hMc hEA hszA hszB
    go_wp2_with (first | (at_builtin; refine wpList_append_run _ rfl _ _ 30 30 rfl _ _ rfl rfl hA1 ?_) | (at_builtin; refine wpList_append_run _ rfl _ _ 31 31 rfl _ _ rfl rfl hA2 ?_))
    go_loopw [12] (fun a w' => ∃ (q : Nat) (z : It), i ≤ q ∧ q ≤ L.length ∧ a = .int .i64 q ∧ Model w' (.slice (some ⟨gk, 0, none⟩) (L.length + 1) ck1) (.slice (some ⟨ge, 0, none⟩) (L.length + 1) ce1) (L.take q ++ z :: L.drop q) ∧ Keeps (fun k => k = gk ∨ k = ge) wB w') (fun a w' => (intOf a).toNat)
    case atStart => exact ⟨L.length, zIt, by omega, by omega, rfl, by simpa using HMB.out, Keeps.refl _ _⟩
    case round =>
      obtain ⟨q, z, hiq, hqL, rfl, hMr, hKr⟩ := hrel
      have hXl : (L.take q ++ z :: L.drop q).length = L.length + 1 := by simp; omega
      have HMR := hide' hMr
      have HKR := hide' hKr
      clear hMr hKr
      by_cases hlt : i < q
      · obtain ⟨r, rfl⟩ : ∃ r, q = r + 1 := ⟨q - 1, by omega⟩
        obtain ⟨y, hy⟩ : ∃ y, L[r]? = some y := ⟨_, List.getElem?_eq_getElem (by omega)⟩
        have hXr : (L.take (r + 1) ++ z :: L.drop (r + 1))[r]? = some y := by
          rw [List.getElem?_append_left (by rw [List.length_take]; omega), List.getElem?_take_of_lt (by omega)]; exact hy
        obtain ⟨m0, mf⟩ := HMR.out.k.cell hXr
        obtain ⟨n0, n1, nf⟩ := HMR.out.e.cell hXr
        have hXz : (L.take (r + 1) ++ z :: L.drop (r + 1))[r + 1]? = some z := by
          rw [List.getElem?_append_right (by rw [List.length_take]; omega), List.length_take, Nat.min_eq_left hqL, Nat.sub_self]; rfl
        obtain ⟨p0, _⟩ := HMR.out.k.cell hXz
        obtain ⟨p1, p2, _⟩ := HMR.out.e.cell hXz
        have hge : gk ≠ ge := fun e => HMR.out.d gk rfl (by rw [e]; rfl)
        clear hXz
        have hgl1 := cell_lt m0
        have hgl2 := cell_lt n0
        have x0 := fun W => idx30 gk (L.length + 1) ck1 r (by omega) W
        have x1 : ∀ W, (Instr.indexAt 30 (.slice (some ⟨gk, 0, none⟩) (L.length + 1) ck1) (.int .i64 ((r : Int) + 1))).run Try.prog W = .ok (.pointer (some ⟨gk, r + 1, none⟩)) W := fun W => idx30 gk (L.length + 1) ck1 (r + 1) (by omega) W
        have y0 := fun W => idx31 ge (L.length + 1) ce1 r (by omega) W
        have y1 : ∀ W, (Instr.indexAt 31 (.slice (some ⟨ge, 0, none⟩) (L.length + 1) ce1) (.int .i64 ((r : Int) + 1))).run Try.prog W = .ok (.pointer (some ⟨ge, (r + 1) * 2, none⟩)) W := fun W => idx31 ge (L.length + 1) ce1 (r + 1) (by omega) W
        have hrl : (r : Int) + 1 ≤ (L.length : Int) := by omega
        have hir : (i : Int) < (r : Int) + 1 := by omega
        have hw : IntKind.i64.wrap ((r : Int) + 1 - 1) = (r : Int) := by rw [IntKind.wrap_i64]; omega
        have HY := hide' hy
        have HXL := hide' hXl
        clear hy hXr hXl
        simp only [Int.natCast_add, Int.natCast_one]
        go_wp2_with fail
        go_roundw
        case rel =>
          have hset := shift_step L r z y HY.out
          have kk := OwnK.put' HMR.out.k (r + 1) y
          have ke := OwnE.put' (HMR.out.e.of_block (w' := wr.setCell ⟨gk, r + 1, none⟩ (.string y.k)) (fun b hb => Below.heap_setCell _ ⟨gk, r + 1, none⟩ _ _ (fun e => HMR.out.d gk rfl (by rw [← show b = gk from e]; exact hb)))) (r + 1) y
          rw [hset] at kk ke
          refine ⟨r, y, by omega, by omega, by go_num, ⟨kk.of_block (fun b hb => ?_), ke, HMR.out.d⟩, ?_⟩
          · have hb' : b ≠ ge := fun e => HMR.out.d b hb (by rw [e]; rfl)
            exact (Below.heap_setCell _ ⟨ge, _, none⟩ _ _ hb').trans (Below.heap_setCell _ ⟨ge, _, none⟩ _ _ hb')
          · exact ((HKR.out.setCell (p := ⟨gk, r + 1, none⟩) (.inl (.inl rfl)) _).setCell (p := ⟨ge, (r + 1) * 2, none⟩) (.inl (.inr rfl)) _).setCell (p := ⟨ge, (r + 1) * 2 + 1, none⟩) (.inl (.inr rfl)) _
        case measure => simp [intOf]
      · obtain rfl : q = i := by omega
        have hXz : (L.take q ++ z :: L.drop q)[q]? = some z := by
          rw [List.getElem?_append_right (by rw [List.length_take]; omega), List.length_take, Nat.min_eq_left hqL, Nat.sub_self]; rfl
        obtain ⟨p0, pf⟩ := HMR.out.k.cell hXz
        obtain ⟨p1, p2, pf2⟩ := HMR.out.e.cell hXz
        have hge : gk ≠ ge := fun e => HMR.out.d gk rfl (by rw [e]; rfl)
        have x1 := fun W => idx30 gk (L.length + 1) ck1 q (by omega) W
        have y1 := fun W => idx31 ge (L.length + 1) ce1 q (by omega) W
        have hbx := HBX.out _ HKR.out
        have b0 : wr.cell? ⟨w.heap.size, 0, none⟩ = some (.string x.v) := by simp [World.cell?, hbx.1]
        have b1 : wr.cell? ⟨w.heap.size, 1, none⟩ = some (.int .u64 x.r) := by simp [World.cell?, hbx.1]
        have hn1 := hbx.2.1
        have hn2 := hbx.2.2
        have hXz' : (L.take q ++ z :: L.drop q).set q x = L.take q ++ x :: L.drop q := by
          rw [List.set_append_right _ _ (by rw [List.length_take]; omega), List.length_take, Nat.min_eq_left hqL, Nat.sub_self, List.set_cons_zero]
        have HXZ := hide' hXz'
        have hqL' : (q : Int) ≤ (L.length : Int) := by omega
        clear hbx hXz hXz' hXl
        go_wp2_with fail
        go_ret2
        have kk := OwnK.put' HMR.out.k q x
        have ke := OwnE.put' (HMR.out.e.of_block (w' := wr.setCell ⟨gk, q, none⟩ (.string x.k)) (fun b hb => Below.heap_setCell _ ⟨gk, q, none⟩ _ _ (fun e => HMR.out.d gk rfl (by rw [← show b = gk from e]; exact hb)))) q x
        rw [HXZ.out] at kk ke
        refine ⟨_, _, rfl, ⟨kk.of_block (fun b hb => ?_), ke, HMR.out.d⟩, ?_, ?_⟩
        · have hb' : b ≠ ge := fun e => HMR.out.d b hb (by rw [e]; rfl)
          exact (Below.heap_setCell _ ⟨ge, _, none⟩ _ _ hb').trans (Below.heap_setCell _ ⟨ge, _, none⟩ _ _ hb')
        · have k1 := ((HKR.out.setCell (p := ⟨gk, q, none⟩) (.inl (.inl rfl)) (.string x.k)).setCell (p := ⟨ge, q * 2, none⟩) (.inl (.inr rfl)) (.string x.v)).setCell (p := ⟨ge, q * 2 + 1, none⟩) (.inl (.inr rfl)) (.int .u64 x.r)
          exact HKK.out.andThen k1 HGG.out.1
        · exact HGG.out.2
end Go.Proofs.Qxb6601392a.Bt
