import Derived.Test.Qxb6601392aRemC
import Derived.Test.Qxb6601392aGrowR
import Derived.Test.Qxb6601392aGrowE
import Derived.Test.Qxb6601392aRemG
namespace Go.Proofs.Qxb6601392a.Bt
open Go.RowKit

/-- an emptied inner node has one child, and owns it -/
def Lone (w : World) (o B : Nat) : Nat → Ch → Prop
  | 0, _ => True
  | d + 1, c => ∃ iv cv k, NodeO w o B d c iv cv [] [k] ∧ k.fz = false
/-- what remove leaves behind -/
def RemPost (t : Nat) (w : World) (o B d : Nat) (c : Ch) (key : ByteArray) (last : Bool) (e : Ending) (w' : World) : Prop :=
  ∃ (c' : Ch) (it : It) (P Q : List It), e = .returned it.val ∧ Rep w' o B d c' ∧ c'.b = c.b ∧ c.L = P ++ it :: Q ∧ c'.L = P ++ Q ∧ (if last then Q = [] else it.key = key.data.toList) ∧ c'.m ≤ c.m ∧ c.m ≤ c'.m + t ∧ c'.fz = false ∧ (∀ x, c'.F x → c.F x ∨ w.heap.size ≤ x) ∧ Keeps c.F w w' ∧ (c'.m = 0 → Lone w' o B d c')
/-- remove at one depth -/
def RemOk (d : Nat) : Prop := ∀ (w : World) (o B : Nat) (c : Ch) (key : ByteArray) (last : Bool), Rep w o B d c → c.fz = false → B ≤ w.heap.size → OwnerAt w o → Sorted c.L → (∀ y ∈ c.L, y.ok) → c.L.length ≤ 1000000000 → c.m ≤ 63 → (0 < d → 1 ≤ c.m) → (if last then c.L ≠ [] else hasKey c.L key.data.toList = true) →
  Calls Try.prog 51 #[.pointer (some ⟨c.b, 0, none⟩), .string key, .bool last, .pointer (some ⟨o, 0, none⟩)] w (RemPost 1 w o B d c key last)

/-- the child made mutable -/
def RemM (w : World) (o B d : Nat) (k : Ch) (w2 : World) (kb' : Nat) : Prop :=
  ∃ k' : Ch, kb' = k'.b ∧ Rep w2 o B d k' ∧ k'.L = k.L ∧ k'.m = k.m ∧ k'.fz = false ∧ (∀ y, k'.F y → k.F y ∨ w.heap.size < y) ∧ Keeps (fun _ => False) w w2
/-- the child behind its own remove -/
def RemN (w : World) (o B d : Nat) (k : Ch) (gc i : Nat) (key : ByteArray) (last : Bool) (w2 w5 : World) (y : It) : Prop :=
  ∃ (k2 : Ch) (P Q : List It), Rep w5 o B d k2 ∧ k.L = P ++ y :: Q ∧ k2.L = P ++ Q ∧ (if last then Q = [] else y.key = key.data.toList) ∧ k2.m ≤ k.m ∧ k.m ≤ k2.m + 1 ∧ k2.fz = false ∧ (∀ x, k2.F x → k.F x ∨ (w.heap.size < x ∧ x ≠ w2.heap.size)) ∧ Keeps (fun x => k.F x ∨ x = gc ∨ w.heap.size ≤ x) w w5 ∧ w5.cell? ⟨gc, i, none⟩ = some (.pointer (some ⟨k2.b, 0, none⟩))

theorem rem_mut {w : World} {o B d : Nat} {k : Ch} (hR : Rep w o B d k) (hB : B ≤ w.heap.size) (ho : OwnerAt w o) (hm : k.m ≤ 63) (w1 : World) (hb1 : Below w.heap.size w w1) (h1 : w.heap.size < w1.heap.size) :
    Calls Try.prog 37 #[.pointer (some ⟨k.b, 0, none⟩), .pointer (some ⟨o, 0, none⟩)] w1 fun e w2 => ∃ kb', e = .returned (.pointer (some ⟨kb', 0, none⟩)) ∧ RemM w o B d k w2 kb' ∧ Keeps (fun _ => False) w1 w2 := by
  refine (kid_mut hR hB ho hm w1 hb1).mono ?_
  rintro e w2 ⟨k', rfl, r1, r2, r3, r4, r5, r6⟩
  refine ⟨k'.b, rfl, ⟨k', rfl, r1, r2, r3, r4, fun y hy => ?_, (keeps_of_below hb1).trans r6⟩, r6⟩
  rcases r5 y hy with h | h
  · exact .inl h
  · exact .inr (by omega)

theorem rem_call {d : Nat} (IH : RemOk d) {w : World} {o B b p cap gc cc : Nat} {Ai : Option Addr} {I : List It} {bs : List Nat} {k : Ch} (W : TriB w b o p Ai cap gc cc I bs) (_hB : B ≤ w.heap.size) (ho : OwnerAt w o) (hR : Rep w o B d k) (hn : ∀ x, x = b ∨ (Value.slice Ai I.length cap).ownBlock = some x ∨ x = gc → ¬ k.F x) (hBg : B ≤ gc ∧ gc ≠ o) (i : Nat) (hib : i < bs.length) (hs : Sorted k.L) (hok : ∀ y ∈ k.L, y.ok) (hlen : k.L.length ≤ 1000000000) (hm : k.m ≤ 63) (hm1 : 1 ≤ k.m) (key : ByteArray) (last : Bool) (ht : if last then k.L ≠ [] else hasKey k.L key.data.toList = true)
    (w2 : World) (kb' : Nat) (w4 : World) (hM : RemM w o B d k w2 kb') (hb : Below (w2.setCell ⟨gc, i, none⟩ (.pointer (some ⟨kb', 0, none⟩))).heap.size (w2.setCell ⟨gc, i, none⟩ (.pointer (some ⟨kb', 0, none⟩))) w4) (h4 : w2.heap.size < w4.heap.size) (h2 : w.heap.size < w2.heap.size) :
    Calls Try.prog 51 #[.pointer (some ⟨kb', 0, none⟩), .string key, .bool last, .pointer (some ⟨o, 0, none⟩)] w4 fun e w5 => ∃ y : It, e = .returned (It.val y) ∧ RemN w o B d k gc i key last w2 w5 y ∧ y.v.size ≤ 1048576 ∧ w4.heap.size ≤ w5.heap.size ∧ ∀ x, x = b ∨ (Value.slice Ai I.length cap).ownBlock = some x ∨ x = gc ∨ x = w.heap.size ∨ x = w2.heap.size → w5.heap[x]? = w4.heap[x]? := by
  obtain ⟨k', rfl, q1, q2, q3, q4, q5, q6⟩ := hM
  have hlt := W.lt
  have hol : o < w.heap.size := (Array.getElem?_eq_some_iff.1 ho).1
  have hs3 : (w2.setCell ⟨gc, i, none⟩ (.pointer (some ⟨k'.b, 0, none⟩))).heap.size = w2.heap.size := by simp
  have k23 : Keeps (fun x => x = gc) w2 (w2.setCell ⟨gc, i, none⟩ (.pointer (some ⟨k'.b, 0, none⟩))) := (Keeps.refl (fun x => x = gc) w2).setCell (p := ⟨gc, i, none⟩) (.inl rfl) _
  have k34 : Keeps (fun _ => False) (w2.setCell ⟨gc, i, none⟩ (.pointer (some ⟨k'.b, 0, none⟩))) w4 := keeps_of_below hb
  have k24 : Keeps (fun x => x = gc) w2 w4 := k23.andThen k34 (fun _ _ h => h.elim)
  have hW2 := W.keeps q6
  have hc3 := (OwnC.put' hW2.c i k'.b).cell (k := i) (b := k'.b) (by rw [List.getElem?_set_self hib])
  have hn' : ∀ x, x = b ∨ (Value.slice Ai I.length cap).ownBlock = some x ∨ x = gc ∨ x = w.heap.size ∨ x = w2.heap.size → ¬ k'.F x := by
    intro x hx h
    have hxl := q1.lt d k' x h
    rcases q5 x h with h1 | h1
    · have hxw := hR.lt d k x h1
      rcases hx with e | e | e | e | e
      · exact hn x (by simp [e]) h1
      · exact hn x (by simp [e]) h1
      · exact hn x (by simp [e]) h1
      · omega
      · omega
    · rcases hx with e | e | e | e | e
      · omega
      · have := W.ltk x (.inr (.inl e)); omega
      · omega
      · omega
      · omega
  have hR4 : Rep w4 o B d k' := q1.keeps k24 (by omega) (fun x hx => by rw [hx]; exact hBg.1) (fun x hx e => hn' gc (by simp) (e ▸ hx))
  have ho2 : OwnerAt w2 o := (q6.block o hol (fun h => h)).trans ho
  have ho4 : OwnerAt w4 o := (k24.block o (by omega) (fun e => hBg.2 e.symm)).trans ho2
  refine (IH w4 o B k' key last hR4 q4 (by omega) ho4 (by rw [q2]; exact hs) (by rw [q2]; exact hok) (by rw [q2]; exact hlen) (by omega) (fun _ => by omega) (by rw [q2]; exact ht)).mono ?_
  rintro e w5 ⟨k2, it, P, Q, rfl, t1, t2, t3, t4, t5, t6, t7, t8, t9, t10, -⟩
  have hs5 := t10.size
  have hbl : ∀ x, x = b ∨ (Value.slice Ai I.length cap).ownBlock = some x ∨ x = gc ∨ x = w.heap.size ∨ x = w2.heap.size → w5.heap[x]? = w4.heap[x]? := fun x hx => t10.block x (by
    rcases hx with e | e | e | e | e
    · omega
    · have := W.ltk x (.inr (.inl e)); omega
    · omega
    · omega
    · omega) (hn' x hx)
  refine ⟨it, rfl, ⟨k2, P, Q, t1, by rw [← q2]; exact t3, t4, t5, by omega, by omega, t8, fun x hx => ?_, ?_, ?_⟩, (hok it (by rw [← q2, t3]; simp)).v, hs5, hbl⟩
  · rcases t9 x hx with h | h
    · rcases q5 x h with h1 | h1
      · exact .inl h1
      · exact .inr ⟨h1, fun e => hn' x (by simp [e]) h⟩
    · exact .inr (by omega)
  · exact ((q6.mono (fun _ _ h => h.elim)).andThen k24 (fun x _ hx => .inr (.inl hx))).andThen t10 (fun x hx hx' => by
      rcases q5 x hx' with h1 | h1
      · exact .inl h1
      · omega)
  · rw [t2]
    have e1 : w5.cell? ⟨gc, i, none⟩ = w4.cell? ⟨gc, i, none⟩ := World.cell?_of_block (w := w4) (a := ⟨gc, i, none⟩) (hbl gc (by simp))
    have e2 : w4.cell? ⟨gc, i, none⟩ = (w2.setCell ⟨gc, i, none⟩ (.pointer (some ⟨k'.b, 0, none⟩))).cell? ⟨gc, i, none⟩ := World.cell?_of_block (a := ⟨gc, i, none⟩) (hb.block gc (by omega))
    rw [e1, e2]
    exact hc3.1
end Go.Proofs.Qxb6601392a.Bt
