import Derived.Test.Qxb6601392aPutF
import Derived.Test.Qxb6601392aNode
namespace Go.Proofs.Qxb6601392a.Bt
open Go.RowKit

/-- what put leaves of a node whose child had room -/
def PutPostE (w : World) (o B d : Nat) (c : Ch) (x : It) (e : Ending) (w' : World) : Prop :=
  ∃ c' : Ch, e = .returned (.tuple #[.int .i64 (if hasKey c.L x.key then 0 else 1), .bool (hasKey c.L x.key)]) ∧ Rep w' o B d c' ∧ c'.b = c.b ∧ c'.L = ins x c.L ∧ c'.m = c.m ∧ c'.fz = false ∧
    (∀ y, c'.F y → c.F y ∨ w.heap.size ≤ y) ∧ Keeps c.F w w'

theorem split_at {α : Type} {l : List α} {i : Nat} {k : α} (h : l[i]? = some k) : ∃ A C, l = A ++ [k] ++ C ∧ A.length = i := by
  obtain ⟨hi, rfl⟩ := List.getElem?_eq_some_iff.1 h
  exact ⟨l.take i, l.drop (i + 1), by simp, by rw [List.length_take]; omega⟩

theorem put_nf {d : Nat} (ih : PutOk d) {w : World} {o B : Nat} {c : Ch} {x : It} {iv cv : Value} {I : List It} {ks : List Ch} (h : NodeO w o B d c iv cv I ks) (hB : B ≤ w.heap.size) (ho : OwnerAt w o) (hs : Sorted c.L) (hok : ∀ y ∈ c.L, y.ok) (hx : x.ok) (hlen : c.L.length ≤ 1000000000)
    (hnf : ∀ i k, Pos I x.key i false → ks[i]? = some k → k.m ≤ 62) (h63 : I.length ≤ 63) : Calls Try.prog 58 (putArgs c x o) w (PutPostE w o B (d + 1) c x) := by
  have hol : o < w.heap.size := (Array.getElem?_eq_some_iff.1 ho).1
  have hlk : (ks.map Ch.L).length = I.length + 1 := by rw [List.length_map]; exact h.len
  have hL := h.L
  have hsI : Sorted I := by
    have := weave_sub I (ks.map Ch.L) hlk
    rw [← hL] at this
    exact hs.sublist this
  obtain ⟨i, f, hp⟩ := pos_exists I x.key hsI
  cases f with
  | true =>
    obtain ⟨y, hy, hyk⟩ := hp.found.1 rfl
    have hyL : y ∈ c.L := by rw [hL]; exact weave_mem_I hlk (List.mem_of_getElem? hy)
    have hit := put_hit hy hyk hlk (by rw [← hL]; exact hs)
    rw [← hL] at hit
    obtain ⟨hins, hhas⟩ := hit
    have hil : (ins x c.L).length = c.L.length := by rw [ins_len_has x c.L hs, if_pos hhas]
    refine (put_found h.n h.is hsI (by omega) x y hx i hp hy (hok y hyL).v (by omega) h.ib).mono ?_
    rintro e w' ⟨rfl, r1, r2, r3⟩
    have h' : NodeO w o B d c iv cv I (ks ++ [] ++ []) := by simpa using h
    obtain ⟨c', q1, q2, q3, q4, q5, q6, q7⟩ := node_build h' hB hol w.heap.size (Nat.le_refl _) [] iv cv (I.set i x) (ins x c.L) (r3.mono (fun k _ hk => by
        rcases hk with hk | hk
        · exact .inr (.inl hk)
        · exact .inl hk)) (by rw [hil]; exact r1) r2 (by
        simp only [List.append_nil]
        exact h.cs.of_block (fun k hk => r3.block k (h.cs.blk k hk) (by
          rintro (e | e)
          · exact h.ic k e hk
          · exact h.cb (e ▸ hk)))) (by simp [h.len]) (by simpa using hins) (fun k hk => (by cases hk)) (fun k hk => (by cases hk)) (fun k hk => (by cases hk)) List.Pairwise.nil (fun x hx => .inl hx) (fun x hx => .inl hx) (fun x hx hx' => h.ic x hx' hx)
    exact ⟨c', by rw [hhas]; rfl, q1.rep, q2, q3, by rw [q4, List.length_set, h.m], q5, q6, q7⟩
  | false =>
    have hil := hp.le
    obtain ⟨k, hk⟩ : ∃ k, ks[i]? = some k := ⟨_, List.getElem?_eq_getElem (by have := h.len; omega)⟩
    have hk62 := hnf i k hp hk
    obtain ⟨A, C, rfl, hAi⟩ := split_at hk
    have hkm : k ∈ A ++ [k] ++ C := by simp
    have hkR := h.R k hkm
    have hkd := h.kd k hkm
    obtain ⟨gc, cc, rfl, _, _, hccl, hccm⟩ := OwnC.at h.cs (k := i) (b := k.b) (by rw [List.getElem?_map, hk]; rfl)
    have hlen' : C.length + i = I.length := by have := h.len; simp at this; omega
    have hLk : c.L = weave I (A.map Ch.L ++ k.L :: C.map Ch.L) := by rw [hL]; simp
    obtain ⟨hins, hhas⟩ := put_place (A := A.map Ch.L) (B := C.map Ch.L) (L := k.L) hp (by simpa using hAi) (by simpa using hlen') (by rw [← hLk]; exact hs)
    rw [← hLk] at hins hhas
    have hsubk : k.L.Sublist c.L := by
      rw [hL]; exact weave_kid_sub I _ hlk k.L (List.mem_map.2 ⟨k, hkm, rfl⟩)
    have hsk : Sorted k.L := hs.sublist hsubk
    have hgcl : gc < w.heap.size := h.cs.blk gc rfl
    have hgb : gc ≠ c.b := fun e => h.cb (by rw [← e]; rfl)
    have hbl := h.n.lt
    have hnode := h.n
    refine (put_down_raw (b := c.b) (o := o) (p := c.L.length) (gc := gc) (cc := cc) (iv := iv) (I := I) (bs := (A ++ [k] ++ C).map Ch.b) h.n h.is hsI (by omega) h.cs x i hp k.b (by rw [List.getElem?_map, hk]; rfl) (by rw [List.length_map, h.len]; omega)
      (fun w1 w2 kb' n => ∃ k' : Ch, kb' = k'.b ∧ n = k'.m ∧ Rep w2 o B d k' ∧ k'.L = k.L ∧ k'.m = k.m ∧ k'.fz = false ∧ (∀ y, k'.F y → k.F y ∨ w1.heap.size ≤ y) ∧ Keeps (fun _ => False) w1 w2) ?_ ?_
      (if hasKey c.L x.key then 0 else 1) (hasKey c.L x.key) (by split <;> omega) (by omega)
      (fun w1 w2 w3 kb' n w4 => w.heap.size ≤ w3.heap.size ∧ ∃ k'' : Ch, Rep w4 o B d k'' ∧ k''.b = kb' ∧ k''.L = ins x k.L ∧ k.m ≤ k''.m ∧ k''.m ≤ k.m + 1 ∧ (∀ y, k''.F y → k.F y ∨ w.heap.size ≤ y) ∧ Keeps (fun y => k.F y ∨ w.heap.size ≤ y) w3 w4) hgb ?_ ?_).mono ?_
    · intro w1 hb1
      have hs1 := hb1.size
      have hk1 : Rep w1 o B d k := Rep.keep (fun y hy => hb1.block y (by omega)) d k hkR (fun y hy => hb1.block y (hkR.lt d k y hy))
      refine (mutable_any hk1 (by omega) ((hb1.block o hol).trans ho) (by omega)).mono ?_
      rintro e w2 ⟨k', rfl, r1, r2, r3, r4, r5, r6⟩
      exact ⟨k'.b, k'.m, rfl, k', rfl, rfl, r1, r2, r3, r4, r5, r6⟩
    · rintro w1 w2 kb' n hb1 ⟨k', rfl, rfl, r1, r2, r3, r4, r5, r6⟩
      have hs1 := hb1.size
      refine ⟨by omega, r6, fun e => ?_, ?_⟩
      · rcases r5 _ (r1.bF r4) with h1 | h1
        · exact hkd.2.2 k'.b (by rw [e]; rfl) h1
        · omega
      · obtain ⟨ow, ivk, cvk, Ik, n1, n2, n3⟩ := r1.node
        obtain ⟨Ak, q, rfl, _, _⟩ := n2.form
        rw [← n3]
        exact ⟨ow, Ak, q, cvk, _, n1⟩
    · rintro w1 w2 kb' n hb1 hlt1 ⟨k', rfl, rfl, r1, r2, r3, r4, r5, r6⟩
      have hs1 := hb1.size
      have hs2 := r6.size
      have hgk : ¬ k'.F gc := fun e => by
        rcases r5 _ e with h1 | h1
        · exact hkd.2.2 gc rfl h1
        · omega
      have hR3 : Rep (w2.setCell ⟨gc, i, none⟩ (.pointer (some ⟨k'.b, 0, none⟩))) o B d k' := by
        refine Rep.keep (fun y hy => Below.heap_setCell _ ⟨gc, i, none⟩ _ _ ?_) d k' r1 (fun y hy => Below.heap_setCell _ ⟨gc, i, none⟩ _ _ ?_)
        · intro e
          have e : y = gc := e
          have := (h.FB gc ((h.F gc).2 (.inr (.inr (.inl rfl))))).1
          omega
        · intro e
          have e : y = gc := e
          exact hgk (e ▸ hy)
      have hogc : o ≠ gc := fun e => (h.FB gc ((h.F gc).2 (.inr (.inr (.inl rfl))))).2 e.symm
      have ho3 : OwnerAt (w2.setCell ⟨gc, i, none⟩ (.pointer (some ⟨k'.b, 0, none⟩))) o := (Below.heap_setCell _ ⟨gc, i, none⟩ _ _ hogc).trans ((r6.block o (by omega) (fun h => h)).trans ((hb1.block o hol).trans ho))
      have hll : k.L.length ≤ c.L.length := hsubk.length_le
      refine (ih _ o B k' x ⟨hR3, by simp; omega, ho3, r4, by rw [r2]; exact hsk, by rw [r2]; exact fun y hy => hok y (hsubk.subset hy), hx, by rw [r2]; omega⟩ (by omega)).mono ?_
      rintro e w4 ⟨k'', rfl, s1, s2, s3, s4, s5, s6, s7, s8⟩
      rw [r2, ← hhas]
      refine ⟨by split <;> rfl, by simp; omega, k'', s1, s2, by rw [s3, r2], by omega, by omega, fun y hy => ?_, s8.mono (fun y _ hy => ?_)⟩
      · rcases s7 y hy with h1 | h1
        · rcases r5 y h1 with h2 | h2
          · exact .inl h2
          · exact .inr (by omega)
        · exact .inr (by simp at h1; omega)
      · rcases r5 y hy with h2 | h2
        · exact .inl h2
        · exact .inr (by omega)
    · rintro w1 w2 w3 kb' n w4 ⟨hs3, k'', s1, s2, s3, s4, s5, s6, s7⟩
      refine s7.block c.b (by omega) ?_
      rintro (e | e)
      · exact hkd.1 e
      · omega
    · rintro e w' ⟨rfl, w1, w2, kb', n, w4, hb1, ⟨k', rfl, rfl, r1, r2, r3, r4, r5, r6⟩, ⟨hs3, k'', s1, s2, s3, s4, s5, s6, s7⟩, rfl⟩
      have hs1 := hb1.size
      have hs2 := r6.size
      have hsz4 := s7.size
      have gcF : c.F gc := (h.F gc).2 (.inr (.inr (.inl rfl)))
      have bF : c.F c.b := (h.F c.b).2 (.inl rfl)
      have K1 : Keeps (fun y => y = c.b ∨ iv.ownBlock = some y ∨ (Value.slice (some ⟨gc, 0, none⟩) ((A ++ [k] ++ C).map Ch.b).length cc).ownBlock = some y ∨ ∃ k0 ∈ [k], k0.F y) w (w2.setCell ⟨gc, i, none⟩ (.pointer (some ⟨k'.b, 0, none⟩))) :=
        (((keeps_of_below hb1).andThen r6 (fun _ _ e => e.elim)).setCell (p := ⟨gc, i, none⟩) (.inl (.inr (.inr (.inl rfl)))) _)
      have K2 := K1.andThen s7 (fun y hy e => by
        rcases e with e | e
        · exact .inr (.inr (.inr ⟨k, by simp, e⟩))
        · omega)
      have K3 := K2.setCell (p := ⟨c.b, 3, none⟩) (.inl (.inl rfl)) (.int .i64 (((c.L.length + if hasKey c.L x.key then 0 else 1 : Nat)) : Int))
      have nb : ∀ y, y < w.heap.size → ¬ k.F y → y ≠ gc → y ≠ c.b → (w4.setCell ⟨c.b, 3, none⟩ (.int .i64 (((c.L.length + if hasKey c.L x.key then 0 else 1 : Nat)) : Int))).heap[y]? = w.heap[y]? := fun y hy h1 h2 h3 =>
        (Below.heap_setCell _ ⟨c.b, 3, none⟩ _ _ h3).trans ((s7.block y (by simp; omega) (by rintro (e | e); exact h1 e; omega)).trans ((Below.heap_setCell _ ⟨gc, i, none⟩ _ _ h2).trans ((r6.block y (by omega) (fun h => h)).trans (hb1.block y hy))))
      have hN4 : NodeAt w4 c.b o iv (.slice (some ⟨gc, 0, none⟩) ((A ++ [k] ++ C).map Ch.b).length cc) c.L.length :=
        h.n.of_block ((s7.block c.b (by simp; omega) (by rintro (e | e); exact hkd.1 e; omega)).trans ((Below.heap_setCell _ ⟨gc, i, none⟩ _ _ (fun e => hgb e.symm)).trans ((r6.block _ (by omega) (fun h => h)).trans (hb1.block _ hbl))))
      have hC2 : OwnC w2 (.slice (some ⟨gc, 0, none⟩) ((A ++ [k] ++ C).map Ch.b).length cc) ((A ++ [k] ++ C).map Ch.b) := h.cs.of_block (fun y hy => (r6.block y (by have := h.cs.blk y hy; omega) (fun h => h)).trans (hb1.block y (h.cs.blk y hy)))
      have hC3 := (OwnC.put hC2 i k'.b)
      have hset : ((A ++ [k] ++ C).map Ch.b).set i k'.b = (A ++ [k''] ++ C).map Ch.b := by
        rw [← hAi]; simp [s2]
      rw [hset] at hC3
      have hC4 : OwnC (w4.setCell ⟨c.b, 3, none⟩ (.int .i64 (((c.L.length + if hasKey c.L x.key then 0 else 1 : Nat)) : Int))) (.slice (some ⟨gc, 0, none⟩) ((A ++ [k] ++ C).map Ch.b).length cc) ((A ++ [k''] ++ C).map Ch.b) := hC3.of_block (fun y hy => by
        have hy' : gc = y := by simpa [Value.ownBlock] using hy
        subst hy'
        refine (Below.heap_setCell _ ⟨c.b, 3, none⟩ _ _ hgb).trans (s7.block _ (by simp; omega) ?_)
        rintro (e | e)
        · exact hkd.2.2 _ rfl e
        · omega)
      have hs4' : Rep (w4.setCell ⟨c.b, 3, none⟩ (.int .i64 (((c.L.length + if hasKey c.L x.key then 0 else 1 : Nat)) : Int))) o B d k'' := by
        refine Rep.keep (fun y hy => Below.heap_setCell _ ⟨c.b, 3, none⟩ _ _ ?_) d k'' s1 (fun y hy => Below.heap_setCell _ ⟨c.b, 3, none⟩ _ _ ?_)
        · intro e
          have e : y = c.b := e
          have := (h.FB c.b bF).1
          omega
        · intro e
          have e : y = c.b := e
          subst e
          rcases s6 _ hy with h1 | h1
          · exact hkd.1 h1
          · omega
      have hlenn : (ins x c.L).length = c.L.length + if hasKey c.L x.key then 0 else 1 := by
        rw [ins_len_has x c.L hs]; split <;> rfl
      have hzk := h.z k hkm
      obtain ⟨c', q1, q2, q3, q4, q5, q6, q7⟩ := node_build h hB hol w4.heap.size (by simp at hsz4; omega) [k''] iv (.slice (some ⟨gc, 0, none⟩) ((A ++ [k] ++ C).map Ch.b).length cc) I (ins x c.L) K3 (by rw [hlenn]; exact hN4.set3 _)
        (h.is.of_block (fun y hy => nb y (h.is.blk y hy) (hkd.2.1 y hy) (fun e => h.ic y hy (by rw [e]; rfl)) (fun e => h.ib (e ▸ hy)))) hC4 (by have := h.len; simp at this ⊢; omega) (by rw [hins]; simp [s3])
        (fun k0 hk0 => by simp at hk0; subst hk0; exact hs4') (fun k0 hk0 => by simp at hk0; subst hk0; omega) (fun k0 hk0 y hy => by
          simp at hk0; subst hk0
          rcases s6 y hy with h1 | h1
          · exact .inl ⟨k, by simp, h1⟩
          · exact .inr ⟨h1, s1.lt d _ y hy⟩) (List.pairwise_singleton _ _) (fun y hy => .inl hy) (fun y hy => .inl hy) (fun y hy hy' => h.ic y hy' hy)
      exact ⟨c', by split <;> rfl, q1.rep, q2, q3, by rw [q4, h.m], q5, q6, q7⟩
end Go.Proofs.Qxb6601392a.Bt
