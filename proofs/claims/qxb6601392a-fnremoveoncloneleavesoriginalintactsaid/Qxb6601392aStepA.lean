import Derived.Test.Qxb6601392aHoldB
namespace Go.Proofs.Qxb6601392a.Bt
open Go.RowKit

/-- the model's put -/
theorem modelPut_any {w : World} {kv ev : Value} {L : List It} (h : Model w kv ev L) (hs : Sorted L) (hn : L.length ≤ 100000) (hok : ∀ y ∈ L, y.ok) (x : It) (hx : x.ok) :
    Calls Try.prog 34 #[kv, ev, .string x.k, .agg #[.string x.v, .int .u64 x.r]] w fun e w' => ∃ kv' ev', e = .returned (.tuple #[kv', ev']) ∧ Model w' kv' ev' (ins x L) ∧ Keeps (fun k => kv.ownBlock = some k ∨ ev.ownBlock = some k) w w' ∧
      (∀ k, (kv'.ownBlock = some k ∨ ev'.ownBlock = some k) → (kv.ownBlock = some k ∨ ev.ownBlock = some k) ∨ w.heap.size ≤ k) := by
  obtain ⟨i, f, hp⟩ := pos_exists L x.key hs
  cases f with
  | true =>
    obtain ⟨y, hy, hk, hins, hhas⟩ := hp.ins_hit
    refine (modelPut_found h hs hn x i hp).mono ?_
    rintro e w' ⟨rfl, r1, r2⟩
    exact ⟨kv, ev, rfl, by rw [hins]; exact r1, r2.mono (fun k _ hk => .inr hk), fun k hk => .inl hk⟩
  | false =>
    obtain ⟨hins, hhas⟩ := hp.ins_new hs
    refine (modelPut_new h hs hn hok x hx i hp).mono ?_
    rintro e w' ⟨kv', ev', rfl, r1, r2, r3⟩
    exact ⟨kv', ev', rfl, by rw [hins]; exact r1, r2, r3⟩

/-- tree and model side by side -/
structure St (w : World) (o B d : Nat) (c : Ch) (kv ev : Value) : Prop where
  root : Root w o B d c
  m : Model w kv ev c.L
  sep : ∀ k, (kv.ownBlock = some k ∨ ev.ownBlock = some k) → ¬ c.F k ∧ B ≤ k ∧ k ≠ o

def StepPost (w : World) (o B : Nat) (c : Ch) (kv ev : Value) (x : It) (nb : Nat) (kv' ev' : Value) (w' : World) : Prop :=
  ∃ d' c', c'.b = nb ∧ St w' o B d' c' kv' ev' ∧ c'.L = ins x c.L ∧ (∀ y, (c'.F y ∨ kv'.ownBlock = some y ∨ ev'.ownBlock = some y) → (c.F y ∨ kv.ownBlock = some y ∨ ev.ownBlock = some y) ∨ w.heap.size ≤ y) ∧ Keeps (fun y => c.F y ∨ kv.ownBlock = some y ∨ ev.ownBlock = some y) w w'

set_option maxRecDepth 100000 in
set_option maxHeartbeats 2000000 in
/-- the walk of a put, the calls' contracts given -/
theorem putStep_raw {w : World} {b o : Nat} {kv ev : Value} {L : List It} (hM : Model w kv ev L) (hs : Sorted L) (hn : L.length ≤ 100000) (hok : ∀ y ∈ L, y.ok) (x : It) (hx : x.ok) (i : Nat) (f : Bool) (hP : Pos L x.key i f)
    (S : Nat → World → Prop)
    (hput : ∀ w1, Below w.heap.size w w1 → w.heap.size + 2 ≤ w1.heap.size → Calls Try.prog 33 #[.pointer (some ⟨b, 0, none⟩), .string x.k, .agg #[.string x.v, .int .u64 x.r], .pointer (some ⟨o, 0, none⟩)] w1 fun e w2 => ∃ nb gr hd, e = .returned (.tuple #[.pointer (some ⟨nb, 0, none⟩), .int .i64 gr, .bool hd]) ∧ gr = (if f then 0 else 1) ∧ hd = f ∧ S nb w2 ∧ ∀ k, k = w.heap.size ∨ k = w.heap.size + 1 → w2.heap[k]? = w1.heap[k]?)
    (R : Nat → Value → Value → World → Prop)
    (hmod : ∀ nb w2, S nb w2 → Calls Try.prog 34 #[kv, ev, .string x.k, .agg #[.string x.v, .int .u64 x.r]] w2 fun e w3 => ∃ kv' ev', e = .returned (.tuple #[kv', ev']) ∧ R nb kv' ev' w3) :
    Calls Try.prog 14 #[.pointer (some ⟨b, 0, none⟩), .agg #[.string x.k, .string x.v, .int .u64 x.r], .pointer (some ⟨o, 0, none⟩), kv, ev] w fun e w3 => ∃ nb kv' ev', e = .returned (.tuple #[.pointer (some ⟨nb, 0, none⟩), kv', ev', .bool true]) ∧ R nb kv' ev' w3 := by
  obtain ⟨Ak, ck, rfl, _, _⟩ := hM.k.form
  obtain ⟨Ae, ce, rfl, _, _⟩ := hM.e.form
  have HM := hide' hM
  have HPUT := hide' hput
  have HMOD := hide' hmod
  have hxv := hx.v
  have hn' : (L.length : Int) ≤ 100000 := by omega
  have HIX := hide' (fun W (hW : OwnK W (.slice Ak L.length ck) L) (r : Int) hr => modelIndex_any W _ L hW hs hn x.k i f hP r hr)
  have HP := hide' hP
  have HOK := hide' hok
  clear hM hput hmod hs hP hok hx
  go_enter Try.func14, Try.ntmps14
  cases f with
  | true =>
    obtain ⟨y, hy, hyk⟩ := HP.out.found.1 rfl
    have hil : i < L.length := (List.getElem?_eq_some_iff.1 hy).1
    have hil' : (i : Int) < (L.length : Int) := by omega
    obtain ⟨ge, c', hv', k0, k1, _, _, _⟩ := HM.out.e.at hy
    injection hv' with hA1 hA3 hA2
    clear hA3
    subst hA1 hA2
    have hyv := (HOK.out y (List.mem_of_getElem? hy)).v
    have x31 := fun W => idx31 ge L.length ce i hil W
    have hgl := cell_lt k0
    clear hy hyk
    go_wp2_with (first
      | (go_at_call 31; refine (HIX.out _ (HM.out.k.of_block (fun k hk => (Below.heap_alloc _ _ _ (by have := HM.out.k.blk k hk; simp; omega)).trans (Below.heap_alloc _ _ _ (HM.out.k.blk k hk)))) i rfl).mono ?_; rintro e w5 ⟨rfl, hw5⟩; rw [hw5]; clear hw5 w5)
      | (go_at_call_of 32 x.v; refine (zzPieces_one x.v hxv _).mono ?_; rintro e w7 ⟨rfl, hw7⟩; rw [hw7]; clear hw7 w7)
      | (go_at_call_of 32 y.v; refine (zzPieces_one y.v hyv _).mono ?_; rintro e w7 ⟨rfl, hw7⟩; rw [hw7]; clear hw7 w7))
    have hbw : Below w.heap.size w ((w.alloc (.cells #[.string x.k, .string x.v, .int .u64 x.r] 36)).alloc (.cells #[.string x.v, .int .u64 x.r] 64)) := ((Below.refl _ _).alloc (Nat.le_refl _) _).alloc (by simp) _
    refine (HPUT.out _ hbw (by simp)).mono ?_
    rintro e w2 ⟨nb, gr, hd, rfl, rfl, rfl, hS2, hbx⟩
    have b0 : w2.heap[w.heap.size]? = some (.cells #[.string x.k, .string x.v, .int .u64 x.r] 36) := (hbx _ (.inl rfl)).trans ((Below.heap_alloc _ _ _ (by simp)).trans (heap_alloc_new _ _))
    have b1 : w2.heap[w.heap.size + 1]? = some (.cells #[.string x.v, .int .u64 x.r] 64) := by
      refine (hbx _ (.inr rfl)).trans ?_
      have := heap_alloc_new (w.alloc (.cells #[.string x.k, .string x.v, .int .u64 x.r] 36)) (.cells #[.string x.v, .int .u64 x.r] 64)
      rw [World.size_alloc] at this
      exact this
    have p0 : w2.cell? ⟨w.heap.size, 0, none⟩ = some (.string x.k) := by simp [World.cell?, b0]
    have p1 : w2.cell? ⟨w.heap.size + 1, 0, none⟩ = some (.string x.v) := by simp [World.cell?, b1]
    have p2 : w2.cell? ⟨w.heap.size + 1, 1, none⟩ = some (.int .u64 x.r) := by simp [World.cell?, b1]
    have HMD := hide' (HMOD.out nb w2 hS2)
    clear b0 b1 hbx hS2 hbw
    go_wp2_with (go_at_call 34; refine HMD.out.mono ?_; rintro e w3 ⟨kv', ev', rfl, hR⟩; have HR := hide' hR; clear hR)
    exact bodyPost_ret (v := .tuple #[.pointer (some ⟨nb, 0, none⟩), kv', ev', .bool true]) (by simp [results, Try.results14, go_sem]) rfl ⟨nb, kv', ev', rfl, HR.out⟩
  | false =>
    go_wp2_with (first
      | (go_at_call 31; refine (HIX.out _ (HM.out.k.of_block (fun k hk => (Below.heap_alloc _ _ _ (by have := HM.out.k.blk k hk; simp; omega)).trans (Below.heap_alloc _ _ _ (HM.out.k.blk k hk)))) (-1) rfl).mono ?_; rintro e w5 ⟨rfl, hw5⟩; rw [hw5]; clear hw5 w5)
      | (go_at_call_of 32 x.v; refine (zzPieces_one x.v hxv _).mono ?_; rintro e w7 ⟨rfl, hw7⟩; rw [hw7]; clear hw7 w7))
    have hbw : Below w.heap.size w ((w.alloc (.cells #[.string x.k, .string x.v, .int .u64 x.r] 36)).alloc (.cells #[.string x.v, .int .u64 x.r] 64)) := ((Below.refl _ _).alloc (Nat.le_refl _) _).alloc (by simp) _
    refine (HPUT.out _ hbw (by simp)).mono ?_
    rintro e w2 ⟨nb, gr, hd, rfl, rfl, rfl, hS2, hbx⟩
    have b0 : w2.heap[w.heap.size]? = some (.cells #[.string x.k, .string x.v, .int .u64 x.r] 36) := (hbx _ (.inl rfl)).trans ((Below.heap_alloc _ _ _ (by simp)).trans (heap_alloc_new _ _))
    have b1 : w2.heap[w.heap.size + 1]? = some (.cells #[.string x.v, .int .u64 x.r] 64) := by
      refine (hbx _ (.inr rfl)).trans ?_
      have := heap_alloc_new (w.alloc (.cells #[.string x.k, .string x.v, .int .u64 x.r] 36)) (.cells #[.string x.v, .int .u64 x.r] 64)
      rw [World.size_alloc] at this
      exact this
    have p0 : w2.cell? ⟨w.heap.size, 0, none⟩ = some (.string x.k) := by simp [World.cell?, b0]
    have p1 : w2.cell? ⟨w.heap.size + 1, 0, none⟩ = some (.string x.v) := by simp [World.cell?, b1]
    have p2 : w2.cell? ⟨w.heap.size + 1, 1, none⟩ = some (.int .u64 x.r) := by simp [World.cell?, b1]
    have HMD := hide' (HMOD.out nb w2 hS2)
    clear b0 b1 hbx hS2 hbw
    go_wp2_with (go_at_call 34; refine HMD.out.mono ?_; rintro e w3 ⟨kv', ev', rfl, hR⟩; have HR := hide' hR; clear hR)
    exact bodyPost_ret (v := .tuple #[.pointer (some ⟨nb, 0, none⟩), kv', ev', .bool true]) (by simp [results, Try.results14, go_sem]) rfl ⟨nb, kv', ev', rfl, HR.out⟩

theorem Root.keeps {w w' : World} {o B d : Nat} {c : Ch} {S : Nat → Prop} (h : Root w o B d c) (hk : Keeps S w w') (hS : ∀ y, S y → B ≤ y ∧ y ≠ o) (hF : ∀ y, c.F y → ¬ S y) : Root w' o B d c := by
  have hB := h.hB
  have hs := hk.size
  exact ⟨h.rep.keeps hk h.hB (fun y hy => (hS y hy).1) hF, by omega, (hk.block o (Array.getElem?_eq_some_iff.1 h.ho).1 (fun e => (hS o e).2 rfl)).trans h.ho, h.fz, h.sorted, h.ok, h.m63, h.pos⟩
theorem Root.below {w w' : World} {o B d : Nat} {c : Ch} (h : Root w o B d c) (hb : Below w.heap.size w w') : Root w' o B d c :=
  h.keeps (keeps_of_below (S := fun _ => False) hb) (fun _ e => e.elim) (fun _ _ e => e)

theorem putStep_any {w : World} {o B d : Nat} {c : Ch} {kv ev : Value} (h : St w o B d c kv ev) (hlen : c.L.length ≤ 100000) (x : It) (hx : x.ok) :
    Calls Try.prog 14 #[.pointer (some ⟨c.b, 0, none⟩), .agg #[.string x.k, .string x.v, .int .u64 x.r], .pointer (some ⟨o, 0, none⟩), kv, ev] w fun e w3 => ∃ nb kv' ev', e = .returned (.tuple #[.pointer (some ⟨nb, 0, none⟩), kv', ev', .bool true]) ∧ StepPost w o B c kv ev x nb kv' ev' w3 := by
  have hB := h.root.hB
  have hol : o < w.heap.size := (Array.getElem?_eq_some_iff.1 h.root.ho).1
  have hlt : ∀ y, c.F y → y < w.heap.size := h.root.rep.lt d c
  have hml : ∀ y, (kv.ownBlock = some y ∨ ev.ownBlock = some y) → y < w.heap.size := fun y hy => hy.elim (h.m.k.blk y) (h.m.e.blk y)
  obtain ⟨i, f, hp⟩ := pos_exists c.L x.key h.root.sorted
  have hf : hasKey c.L x.key = f := by
    cases f with
    | true => exact (hp.ins_hit).choose_spec.2.2.2
    | false => exact (hp.ins_new h.root.sorted).2
  refine putStep_raw h.m h.root.sorted hlen h.root.ok x hx i f hp (fun nb w2 => ∃ d' c', c'.b = nb ∧ Root w2 o B d' c' ∧ c'.L = ins x c.L ∧ (∀ y, c'.F y → c.F y ∨ w.heap.size ≤ y) ∧ Keeps c.F w w2) (fun w1 hb1 hsz1 => ?_) (fun nb kv' ev' w3 => StepPost w o B c kv ev x nb kv' ev' w3) ?_
  · refine (putAtRoot_any (h.root.below hb1) (by omega) x hx).mono ?_
    rintro e w2 ⟨nb, gr, hd, rfl, q1, q2, d', c', q3, q4, q5, q6, q7⟩
    rw [hf] at q1 q2
    refine ⟨nb, gr, hd, rfl, q1, q2, ⟨d', c', q3, q4, q5, fun y hy => ?_, (keeps_of_below hb1).andThen q7 (fun y _ hy => hy)⟩, fun k hk => q7.block k (by omega) (fun e => by have := hlt k e; omega)⟩
    rcases q6 y hy with h1 | h1
    · exact .inl h1
    · exact .inr (by omega)
  · rintro nb w2 ⟨d', c', q3, q4, q5, q6, q7⟩
    have hs2 := q7.size
    have hM2 : Model w2 kv ev c.L := h.m.keeps q7 (fun y hy => (h.sep y hy).1)
    have hsepF : ∀ y, c'.F y → ¬ (kv.ownBlock = some y ∨ ev.ownBlock = some y) := fun y hy e => by
      rcases q6 y hy with h1 | h1
      · exact (h.sep y e).1 h1
      · have := hml y e; omega
    refine (modelPut_any hM2 h.root.sorted hlen h.root.ok x hx).mono ?_
    rintro e w3 ⟨kv', ev', rfl, r1, r2, r3⟩
    refine ⟨kv', ev', rfl, d', c', q3, ⟨q4.keeps r2 (fun y hy => (h.sep y hy).2) hsepF, by rw [q5]; exact r1, fun y hy => ?_⟩, q5, fun y hy => ?_, (q7.mono (fun y _ hy => .inl hy)).andThen r2 (fun y _ hy => .inr hy)⟩
    · rcases r3 y hy with h1 | h1
      · exact ⟨fun e => hsepF y e h1, (h.sep y h1).2⟩
      · exact ⟨fun e => by have := q4.rep.lt _ _ y e; omega, by omega, by omega⟩
    · rcases hy with hy | hy
      · rcases q6 y hy with h1 | h1
        · exact .inl (.inl h1)
        · exact .inr h1
      · rcases r3 y hy with h1 | h1
        · exact .inl (.inr h1)
        · exact .inr (by omega)
end Go.Proofs.Qxb6601392a.Bt
