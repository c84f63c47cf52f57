import Derived.Test.Qxb6601392aRows
import Derived.WalkKit
import Derived.WalkSpells
import Derived.WalkLawsBesides
import Derived.LaidEql
import Derived.Deep.Draws
import Derived.Lib.Bytealg
import Derived.Laws.Externs
import Derived.BigQuiet
import Derived.Deep.QuietTactic
namespace Go.Proofs.Qxb6601392a.Bt
open Go.RowKit

/-- an item: key, value, revision -/
structure It where
  k : ByteArray
  v : ByteArray
  r : Int

def It.cells (x : It) : List Value := [.string x.k, .string x.v, .int .u64 x.r]
def It.val (x : It) : Value := .agg #[.string x.k, .string x.v, .int .u64 x.r]
/-- what all items of this law are: no value is longer than a piece -/
structure It.ok (x : It) : Prop where
  k : x.k.size ≤ 1048576
  v : x.v.size ≤ 1048576
  r : 0 ≤ x.r ∧ x.r ≤ 18446744073709551615

set_option maxHeartbeats 400000 in
theorem pieces_one (s : ByteArray) (hs : s.size ≤ 1048576) (w : World) : Calls Try.prog 54 #[.string s] w fun e w' => e = .returned (.int .i64 1) ∧ w' = w := by
  have hs' : (s.size : Int) ≤ 1048576 := by omega
  go_enter Try.func54, Try.ntmps54
  go_wp2
  go_ret
  exact ⟨rfl, rfl⟩

set_option maxHeartbeats 400000 in
theorem zzPieces_one (s : ByteArray) (hs : s.size ≤ 1048576) (w : World) : Calls Try.prog 32 #[.string s] w fun e w' => e = .returned (.int .i64 1) ∧ w' = w := by
  have hs' : (s.size : Int) ≤ 1048576 := by omega
  by_cases h0 : s.size = 0
  · have hd : decide ((0 : Int) < (s.size : Int)) = false := decide_eq_false (by omega)
    have h0' : (s.size : Int) ≤ 0 := by omega
    go_enter Try.func32, Try.ntmps32
    go_wp2
    refine wp_loop_rounds 1 ?_
    rw [rounds_succ]
    go_wp2
    go_ret
    exact ⟨rfl, rfl⟩
  · have h0' : (0 : Int) < (s.size : Int) := by omega
    go_enter Try.func32, Try.ntmps32
    go_wp2
    go_loop [3, 4] (fun n r => (n = .int .i64 0 ∧ r = .int .i64 s.size) ∨ (n = .int .i64 1 ∧ r = .int .i64 ((s.size : Int) - 1048576))) (fun n r => (1 - intOf n).toNat)
    case atStart => exact .inl ⟨rfl, rfl⟩
    case round =>
      rcases hrel with ⟨rfl, rfl⟩ | ⟨rfl, rfl⟩
      · go_wp2
        go_round
        case rel => exact .inr ⟨rfl, rfl⟩
        case measure => simp [intOf]
      · go_wp2
        go_ret
        exact ⟨rfl, rfl⟩

set_option maxHeartbeats 400000 in
theorem itemKey_any (x : It) (w : World) : Calls Try.prog 42 #[x.val] w fun e w' => e = .returned (.string x.k) ∧ Below w.heap.size w w' := by
  unfold It.val
  go_enter Try.func42, Try.ntmps42
  go_wp2
  go_ret
  exact ⟨rfl, (Below.refl _ _).alloc (Nat.le_refl _) _⟩

set_option maxHeartbeats 400000 in
theorem itemEntry_any (x : It) (w : World) : Calls Try.prog 43 #[x.val] w fun e w' => e = .returned (.agg #[.string x.v, .int .u64 x.r]) ∧ Below w.heap.size w w' := by
  unfold It.val
  go_enter Try.func43, Try.ntmps43
  go_wp2
  exact bodyPost_ret (v := .agg #[.string x.v, .int .u64 x.r]) (by simp [results, Try.results43, go_sem]) rfl ⟨rfl, ((Below.refl _ _).alloc (Nat.le_refl _) _).alloc (by simp) _⟩

/-! ### the order of the keys -/
abbrev Key := List UInt8
def cmp (a b : Key) : Int := Lib.compareBytes a b
def klt (a b : Key) : Bool := decide (cmp a b < 0)

theorem cmp_nil_nil : cmp [] [] = 0 := rfl
theorem cmp_nil_cons (y : UInt8) (b : Key) : cmp [] (y :: b) = -1 := rfl
theorem cmp_cons_nil (x : UInt8) (a : Key) : cmp (x :: a) [] = 1 := rfl
theorem cmp_cons (x y : UInt8) (a b : Key) : cmp (x :: a) (y :: b) = if x < y then -1 else if y < x then 1 else cmp a b := rfl

theorem cmp_self (a : Key) : cmp a a = 0 := by
  induction a with
  | nil => rfl
  | cons x a ih => rw [cmp_cons, if_neg (UInt8.lt_irrefl x), if_neg (UInt8.lt_irrefl x), ih]

theorem cmp_swap (a : Key) : ∀ b, cmp b a = - cmp a b := by
  induction a with
  | nil => intro b; cases b <;> rfl
  | cons x a ih =>
    intro b
    cases b with
    | nil => rfl
    | cons y b =>
      rw [cmp_cons, cmp_cons, ih b]
      by_cases h : x < y
      · have h' : ¬ y < x := fun h' => UInt8.lt_irrefl x (UInt8.lt_trans h h')
        rw [if_neg h', if_pos h, if_pos h]; rfl
      · by_cases h2 : y < x
        · rw [if_pos h2, if_neg h, if_pos h2]
        · rw [if_neg h2, if_neg h, if_neg h, if_neg h2]

theorem cmp_eq (a : Key) : ∀ b, cmp a b = 0 → a = b := by
  induction a with
  | nil => intro b h; cases b with
    | nil => rfl
    | cons => simp [cmp_nil_cons] at h
  | cons x a ih =>
    intro b h
    cases b with
    | nil => simp [cmp_cons_nil] at h
    | cons y b =>
      rw [cmp_cons] at h
      by_cases h1 : x < y
      · rw [if_pos h1] at h; simp at h
      · rw [if_neg h1] at h
        by_cases h2 : y < x
        · rw [if_pos h2] at h; simp at h
        · rw [if_neg h2] at h
          have e : x = y := UInt8.le_antisymm (UInt8.not_lt.1 h2) (UInt8.not_lt.1 h1)
          rw [e, ih b h]

theorem cmp_trans (a : Key) : ∀ b c, cmp a b < 0 → cmp b c < 0 → cmp a c < 0 := by
  induction a with
  | nil =>
    intro b c h1 h2
    cases b with
    | nil => simp [cmp_nil_nil] at h1
    | cons y b => cases c with
      | nil => simp [cmp_cons_nil] at h2
      | cons => simp [cmp_nil_cons]
  | cons x a ih =>
    intro b c h1 h2
    cases b with
    | nil => simp [cmp_cons_nil] at h1
    | cons y b =>
      cases c with
      | nil => simp [cmp_cons_nil] at h2
      | cons z c =>
        rw [cmp_cons] at h1 h2 ⊢
        by_cases xy : x < y
        · by_cases yz : y < z
          · rw [if_pos (UInt8.lt_trans xy yz)]; omega
          · rw [if_neg yz] at h2
            by_cases zy : z < y
            · rw [if_pos zy] at h2; omega
            · have e : y = z := UInt8.le_antisymm (UInt8.not_lt.1 zy) (UInt8.not_lt.1 yz)
              rw [← e, if_pos xy]; omega
        · rw [if_neg xy] at h1
          by_cases yx : y < x
          · rw [if_pos yx] at h1; omega
          · rw [if_neg yx] at h1
            have e : x = y := UInt8.le_antisymm (UInt8.not_lt.1 yx) (UInt8.not_lt.1 xy)
            rw [e]
            by_cases yz : y < z
            · rw [if_pos yz]; omega
            · rw [if_neg yz] at h2 ⊢
              by_cases zy : z < y
              · rw [if_pos zy] at h2; omega
              · rw [if_neg zy] at h2 ⊢
                exact ih b c h1 h2

theorem klt_irrefl (a : Key) : klt a a = false := by unfold klt; rw [cmp_self]; rfl
theorem klt_trans {a b c : Key} (h1 : klt a b = true) (h2 : klt b c = true) : klt a c = true := by
  unfold klt at *; rw [decide_eq_true_eq] at *; exact cmp_trans a b c h1 h2
theorem klt_asymm {a b : Key} (h : klt a b = true) : klt b a = false := by
  unfold klt at *; rw [decide_eq_true_eq] at h; rw [decide_eq_false_iff_not, cmp_swap a b]; omega
theorem klt_ne {a b : Key} (h : klt a b = true) : a ≠ b := by
  intro e; subst e; rw [klt_irrefl] at h; cases h
theorem klt_total {a b : Key} (h : klt a b = false) (hne : a ≠ b) : klt b a = true := by
  unfold klt at *; rw [decide_eq_false_iff_not] at h; rw [decide_eq_true_eq, cmp_swap a b]
  have : cmp a b ≠ 0 := fun e => hne (cmp_eq a b e)
  omega

def It.key (x : It) : Key := x.k.data.toList

theorem idx9 (s : ByteArray) (j : Nat) (hj : j < s.size) (W : World) : (Instr.index 9 (.string s) (.int .i64 (j : Int))).run Try.prog W = .ok (.int .u8 ((s.data.toList.getD j 0).toNat : Int)) W := by
  rw [run_index_string (w := W) 9 s .i64 j Try.underlying9, dif_pos (by omega)]
  have hj' : j < s.data.toList.length := by simpa using hj
  have e : s.data.toList.getD j 0 = s[j] := by
    rw [List.getD_eq_getElem?_getD, List.getElem?_eq_getElem hj']; rfl
  simp only [Int.toNat_natCast, e]

theorem drop_eq (s : ByteArray) (j : Nat) (hj : j < s.size) : s.data.toList.drop j = s.data.toList.getD j 0 :: s.data.toList.drop (j + 1) := by
  have hj' : j < s.data.toList.length := by simpa using hj
  rw [List.drop_eq_getElem_cons hj', List.getD_eq_getElem?_getD, List.getElem?_eq_getElem hj']; rfl

theorem drewN_two {w w' : World} (h : ∃ n, w' = w.drewN n) (m : Nat) : ∃ n, w'.drewN m = w.drewN n := by
  obtain ⟨n, rfl⟩ := h
  exact ⟨n + m, by simp [World.drewN, Nat.add_assoc]⟩

theorem klt_end_a (a b : ByteArray) (j : Nat) (h1 : ¬ j < a.size) (hja : j ≤ a.size) (hjb : j ≤ b.size) : klt (a.data.toList.drop j) (b.data.toList.drop j) = decide (a.size < b.size) := by
  have ea : a.data.toList.drop j = [] := List.drop_eq_nil_of_le (by rw [Array.length_toList]; show a.size ≤ j; omega)
  rw [ea]
  by_cases h2 : j < b.size
  · have h : a.size < b.size := by omega
    rw [drop_eq b j h2]; simp [h, klt, cmp_nil_cons]
  · have eb : b.data.toList.drop j = [] := List.drop_eq_nil_of_le (by rw [Array.length_toList]; show b.size ≤ j; omega)
    have h : ¬ a.size < b.size := by omega
    rw [eb]; simp [h, klt, cmp_nil_nil]
theorem klt_end_b (a b : ByteArray) (j : Nat) (h1 : j < a.size) (h2 : ¬ j < b.size) (hjb : j ≤ b.size) : klt (a.data.toList.drop j) (b.data.toList.drop j) = decide (a.size < b.size) := by
  have eb : b.data.toList.drop j = [] := List.drop_eq_nil_of_le (by rw [Array.length_toList]; show b.size ≤ j; omega)
  have h : ¬ a.size < b.size := by omega
  rw [eb, drop_eq a j h1]; simp [h, klt, cmp_cons_nil]
theorem klt_same (c : UInt8) (x y : Key) : klt (c :: x) (c :: y) = klt x y := by
  unfold klt; rw [cmp_cons, if_neg (UInt8.lt_irrefl _), if_neg (UInt8.lt_irrefl _)]
theorem klt_diff (c d : UInt8) (x y : Key) (he : c ≠ d) : klt (c :: x) (d :: y) = decide (c.toNat < d.toNat) := by
  unfold klt; rw [cmp_cons]
  by_cases h : c < d
  · have := UInt8.lt_iff_toNat_lt.1 h
    rw [if_pos h]; simp [this]
  · have h3 : ¬ c.toNat < d.toNat := fun h' => h (UInt8.lt_iff_toNat_lt.2 h')
    have h4 : d < c := UInt8.lt_of_le_of_ne (UInt8.not_lt.1 h) (Ne.symm he)
    rw [if_neg h, if_pos h4]; simp [h3]

set_option maxRecDepth 100000 in
set_option maxHeartbeats 400000 in
theorem less_any (a b : ByteArray) (ha : a.size ≤ 1048576) (hb : b.size ≤ 1048576) (w : World) :
    Calls Try.prog 48 #[.string a, .string b] w fun e w' => e = .returned (.bool (klt a.data.toList b.data.toList)) ∧ ∃ n, w' = w.drewN n := by
  have ha' : (a.size : Int) ≤ 1048576 := by omega
  have hb' : (b.size : Int) ≤ 1048576 := by omega
  go_enter Try.func48, Try.ntmps48
  go_wp2
  go_loopw [5] (fun i w' => ∃ j n : Nat, j ≤ a.size ∧ j ≤ b.size ∧ i = .int .i64 j ∧ w' = w.drewN n ∧ klt a.data.toList b.data.toList = klt (a.data.toList.drop j) (b.data.toList.drop j)) (fun i w' => a.size - (intOf i).toNat)
  case atStart => exact ⟨0, 0, by omega, by omega, rfl, rfl, by simp⟩
  case round =>
    obtain ⟨j, n, hja, hjb, rfl, rfl, hk⟩ := hrel
    by_cases h1 : j < a.size
    rotate_left
    · have h1' : decide ((j : Int) < (a.size : Int)) = false := decide_eq_false (by omega)
      have HK : Hid (klt a.data.toList b.data.toList = decide (a.size < b.size)) := hk.trans (klt_end_a a b j h1 hja hjb)
      clear hk
      go_wp2
      go_ret
      exact ⟨by rw [HK.out]; first | rfl | simp, _, rfl⟩
    by_cases h2 : j < b.size
    rotate_left
    · have h1' : (j : Int) < (a.size : Int) := by omega
      have h2' : decide ((j : Int) < (b.size : Int)) = false := decide_eq_false (by omega)
      have HK : Hid (klt a.data.toList b.data.toList = decide (a.size < b.size)) := hk.trans (klt_end_b a b j h1 h2 hjb)
      clear hk
      go_wp2
      go_ret
      exact ⟨by rw [HK.out]; first | rfl | simp, _, rfl⟩
    have h1' : (j : Int) < (a.size : Int) := by omega
    have h2' : (j : Int) < (b.size : Int) := by omega
    have x1 := idx9 a j h1
    have x2 := idx9 b j h2
    rw [drop_eq a j h1, drop_eq b j h2] at hk
    have l1 : ((a.data.toList.getD j 0).toNat : Int) < 256 := by have := (a.data.toList.getD j 0).toNat_lt; omega
    have l2 : ((b.data.toList.getD j 0).toNat : Int) < 256 := by have := (b.data.toList.getD j 0).toNat_lt; omega
    generalize a.data.toList.getD j 0 = c at *
    generalize b.data.toList.getD j 0 = d at *
    by_cases he : c = d
    · subst he
      have HK : Hid (klt a.data.toList b.data.toList = klt (a.data.toList.drop (j + 1)) (b.data.toList.drop (j + 1))) := hk.trans (klt_same _ _ _)
      clear hk
      go_wp2_with fail
      go_quiet (fail)
      go_wp2
      go_roundw
      case rel => exact ⟨j + 1, _, by omega, by omega, by go_num, rfl, HK.out⟩
      case measure => simp [intOf]; omega
    · have HK : Hid (klt a.data.toList b.data.toList = decide (c.toNat < d.toNat)) := hk.trans (klt_diff c d _ _ he)
      have hne : ((c.toNat : Int) != (d.toNat : Int)) = true := by
        rw [bne_iff_ne]
        intro e
        exact he (UInt8.toNat_inj.1 (by omega))
      clear hk
      go_wp2_with fail
      go_quiet (fail)
      go_wp2_with fail
      go_quiet (fail)
      go_wp2
      go_ret
      exact ⟨by rw [HK.out]; first | rfl | simp, drewN_two (drewN_two ⟨_, rfl⟩ _) _⟩

theorem cmp_bounds (a : Key) : ∀ b, -1 ≤ cmp a b ∧ cmp a b ≤ 1 := by
  induction a with
  | nil => intro b; cases b <;> simp [cmp_nil_nil, cmp_nil_cons]
  | cons x a ih =>
    intro b
    cases b with
    | nil => simp [cmp_cons_nil]
    | cons y b =>
      rw [cmp_cons]
      have := ih b
      split
      · omega
      · split <;> omega

theorem cmpstring_run (a b : ByteArray) (w : World) : (callFunc 72 #[.string a, .string b]).run Try.prog w = .ok (.value (.int .i64 (cmp a.data.toList b.data.toList))) w := by
  rw [run_callFunc_extern Try.func72 (by kernel_rfl) (by kernel_rfl) (by kernel_rfl) (e := Extern.BytealgCompare.compare) (by kernel_rfl), Lib.run_compareString]
  rfl

set_option maxHeartbeats 400000 in
theorem compareString_any (a b : ByteArray) (w : World) : Calls Try.prog 69 #[.string a, .string b] w fun e w' => e = .returned (.int .i64 (cmp a.data.toList b.data.toList)) ∧ w' = w := by
  have hc := cmpstring_run a b
  go_enter Try.func69, Try.ntmps69
  go_wp2_with (simp only [hc])
  go_ret
  exact ⟨rfl, rfl⟩

set_option maxHeartbeats 400000 in
theorem compare_any (a b : ByteArray) (w : World) : Calls Try.prog 64 #[.string a, .string b] w fun e w' => e = .returned (.int .i64 (cmp a.data.toList b.data.toList)) ∧ w' = w := by
  go_enter Try.func64, Try.ntmps64
  go_wp2_with (go_at_call 69; refine (compareString_any a b _).mono ?_; rintro e w' ⟨rfl, rfl⟩)
  go_ret
  exact ⟨rfl, rfl⟩

set_option maxHeartbeats 400000 in
theorem find1_any (x : It) (k : ByteArray) (w : World) : Calls Try.prog 63 #[x.val, .string k] w fun e w' => e = .returned (.int .i64 (cmp x.key k.data.toList)) ∧ Below w.heap.size w w' := by
  unfold It.val It.key
  go_enter Try.func63, Try.ntmps63
  go_wp2_with (go_at_call 64; refine (compare_any x.k k _).mono ?_; rintro e w' ⟨rfl, rfl⟩)
  go_ret
  exact ⟨rfl, (Below.refl _ _).alloc (Nat.le_refl _) _⟩

/-- block b is a node -/
def NodeAt (w : World) (b o : Nat) (iv cv : Value) (p : Nat) : Prop := w.heap[b]? = some (.cells #[.pointer (some ⟨o, 0, none⟩), iv, cv, .int .i64 (p : Int)] 62)
theorem NodeAt.lt {w : World} {b o p : Nat} {iv cv : Value} (h : NodeAt w b o iv cv p) : b < w.heap.size := (Array.getElem?_eq_some_iff.1 h).1
theorem NodeAt.c0 {w : World} {b o p : Nat} {iv cv : Value} (h : NodeAt w b o iv cv p) : w.cell? ⟨b, 0, none⟩ = some (.pointer (some ⟨o, 0, none⟩)) := by simp [World.cell?, show w.heap[b]? = _ from h]
theorem NodeAt.c1 {w : World} {b o p : Nat} {iv cv : Value} (h : NodeAt w b o iv cv p) : w.cell? ⟨b, 1, none⟩ = some iv := by simp [World.cell?, show w.heap[b]? = _ from h]
theorem NodeAt.c2 {w : World} {b o p : Nat} {iv cv : Value} (h : NodeAt w b o iv cv p) : w.cell? ⟨b, 2, none⟩ = some cv := by simp [World.cell?, show w.heap[b]? = _ from h]
theorem NodeAt.c3 {w : World} {b o p : Nat} {iv cv : Value} (h : NodeAt w b o iv cv p) : w.cell? ⟨b, 3, none⟩ = some (.int .i64 (p : Int)) := by simp [World.cell?, show w.heap[b]? = _ from h]
theorem NodeAt.free {w : World} {b o p : Nat} {iv cv : Value} (h : NodeAt w b o iv cv p) (i : Nat) : w.frozen? ⟨b, i, none⟩ = false := by simp [World.frozen?, show w.heap[b]? = _ from h]
theorem NodeAt.of_block {w w' : World} {b o p : Nat} {iv cv : Value} (h : NodeAt w b o iv cv p) (he : w'.heap[b]? = w.heap[b]?) : NodeAt w' b o iv cv p := he.trans h
theorem NodeAt.set1 {w : World} {b o p : Nat} {iv cv : Value} (h : NodeAt w b o iv cv p) (v : Value) : NodeAt (w.setCell ⟨b, 1, none⟩ v) b o v cv p := by
  have hlt := h.lt; unfold NodeAt at h ⊢; simp [World.setCell, Array.getElem?_modify, h]
theorem NodeAt.set2 {w : World} {b o p : Nat} {iv cv : Value} (h : NodeAt w b o iv cv p) (v : Value) : NodeAt (w.setCell ⟨b, 2, none⟩ v) b o iv v p := by
  have hlt := h.lt; unfold NodeAt at h ⊢; simp [World.setCell, Array.getElem?_modify, h]
theorem NodeAt.set3 {w : World} {b o p : Nat} {iv cv : Value} (h : NodeAt w b o iv cv p) (q : Nat) : NodeAt (w.setCell ⟨b, 3, none⟩ (.int .i64 (q : Int))) b o iv cv q := by
  have hlt := h.lt; unfold NodeAt at h ⊢; simp [World.setCell, Array.getElem?_modify, h]
theorem nodeAt_new (w : World) (o : Nat) (iv cv : Value) (p : Nat) : NodeAt (w.alloc (.cells #[.pointer (some ⟨o, 0, none⟩), iv, cv, .int .i64 (p : Int)] 62)) w.heap.size o iv cv p := by
  unfold NodeAt
  show (w.heap.push _)[w.heap.size]? = _
  simp

set_option maxHeartbeats 400000 in
theorem items_any {w : World} {b o p : Nat} {iv cv : Value} (h : NodeAt w b o iv cv p) : Calls Try.prog 39 #[.pointer (some ⟨b, 0, none⟩)] w fun e w' => e = .returned iv ∧ w' = w := by
  have h1 := h.c1
  clear h
  go_enter Try.func39, Try.ntmps39
  go_wp2
  go_ret
  exact ⟨rfl, rfl⟩
set_option maxHeartbeats 400000 in
theorem children_any {w : World} {b o p : Nat} {iv cv : Value} (h : NodeAt w b o iv cv p) : Calls Try.prog 40 #[.pointer (some ⟨b, 0, none⟩)] w fun e w' => e = .returned cv ∧ w' = w := by
  have h1 := h.c2
  clear h
  go_enter Try.func40, Try.ntmps40
  go_wp2
  go_ret
  exact ⟨rfl, rfl⟩
set_option maxHeartbeats 400000 in
theorem piecesOf_any {w : World} {b o p : Nat} {iv cv : Value} (h : NodeAt w b o iv cv p) : Calls Try.prog 46 #[.pointer (some ⟨b, 0, none⟩)] w fun e w' => e = .returned (.int .i64 (p : Int)) ∧ w' = w := by
  have h1 := h.c3
  clear h
  go_enter Try.func46, Try.ntmps46
  go_wp2
  go_ret
  exact ⟨rfl, rfl⟩

/-- block o is an owner's mark -/
def OwnerAt (w : World) (o : Nat) : Prop := w.heap[o]? = some (.cells #[.int .u8 0] 58)

set_option maxHeartbeats 400000 in
theorem newOwner_any (w : World) : Calls Try.prog 12 #[] w fun e w' => e = .returned (.pointer (some ⟨w.heap.size, 0, none⟩)) ∧ w' = w.alloc (.cells #[.int .u8 0] 58) := by
  go_enter Try.func12, Try.ntmps12
  go_wp2
  go_ret
  exact ⟨rfl, rfl⟩

set_option maxHeartbeats 400000 in
theorem newNode_any (w : World) (o : Nat) (a1 a2 : Option Addr) (n1 c1 n2 c2 : Nat) (p : Nat) : Calls Try.prog 13 #[.pointer (some ⟨o, 0, none⟩), .slice a1 n1 c1, .slice a2 n2 c2, .int .i64 (p : Int)] w fun e w' => e = .returned (.pointer (some ⟨w.heap.size, 0, none⟩)) ∧ w' = w.alloc (.cells #[.pointer (some ⟨o, 0, none⟩), .slice a1 n1 c1, .slice a2 n2 c2, .int .i64 (p : Int)] 62) := by
  go_enter Try.func13, Try.ntmps13
  go_wp2
  go_ret
  exact ⟨rfl, rfl⟩
end Go.Proofs.Qxb6601392a.Bt
