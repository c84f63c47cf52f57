import Derived.Test.Qxb6600116aMap
namespace Go.Proofs.Qxb6600116a.Pl
open Go.RowKit

/-- the slice value '.slice A n cap' is a []string whose elements are ss; ad k: where element k lies -/
structure Strs (w : World) (A : Option Addr) (cap : Nat) (ad : Nat → Addr) (ss : List ByteArray) : Prop where
  idx : ∀ k : Nat, k < ss.length → ∀ W, (Instr.indexAt 29 (.slice A ss.length cap) (.int .i64 (k : Int))).run Try.prog W = .ok (.pointer (some (ad k))) W
  cell : ∀ k : Nat, k < ss.length → w.cell? (ad k) = some (.string (ss.getD k ByteArray.empty))
  lt : ∀ k : Nat, k < ss.length → (ad k).block < w.heap.size
  small : ∀ s ∈ ss, s.size ≤ maxLen
  len : ss.length ≤ maxLen

theorem Strs.below {w w' : World} {A : Option Addr} {cap : Nat} {ad : Nat → Addr} {ss : List ByteArray} (h : Strs w A cap ad ss) (hb : Below w.heap.size w w') : Strs w' A cap ad ss :=
  ⟨h.idx, fun k hk => (hb.cell (h.lt k hk)).trans (h.cell k hk), fun k hk => Nat.lt_of_lt_of_le (h.lt k hk) hb.size, h.small, h.len⟩

theorem Strs.at {w : World} {A : Option Addr} {cap : Nat} {ad : Nat → Addr} {ss : List ByteArray} (h : Strs w A cap ad ss) {k : Nat} (hk : k < ss.length) : (ss.getD k ByteArray.empty).size ≤ maxLen := by
  rw [List.getD_eq_getElem?_getD, List.getElem?_eq_getElem hk]
  exact h.small _ (List.getElem_mem _)

/-- it returns a bool, and the world stands -/
def SomeBool (w : World) (e : Ending) (w' : World) : Prop := ∃ r : Bool, e = .returned (.bool r) ∧ w' = w

set_option maxRecDepth 100000 in
set_option maxHeartbeats 400000 in
theorem zzBytesPath_any (w : World) (A : Option Addr) (cap : Nat) (ad : Nat → Addr) (ss : List ByteArray) (h : Strs w A cap ad ss) :
    Calls Try.prog 11 #[.slice A ss.length cap] w (SomeBool w) := by
  have hlen := h.len
  unfold maxLen at hlen
  by_cases h20 : ss.length ≤ 1048576
  · have h20' : (ss.length : Int) ≤ 1048576 := by omega
    go_enter Try.func11, Try.ntmps11
    go_wp2
    go_loop [3, 4] (fun z i => ∃ (k : Nat) (t : Nat), k ≤ ss.length ∧ t ≤ 1048576 ∧ z = .int .i64 t ∧ i = .int .i64 k) (fun z i => ss.length - (intOf i).toNat)
    case atStart => exact ⟨0, ss.length, by omega, by omega, rfl, rfl⟩
    case round =>
      obtain ⟨k, t, hk, ht, rfl, rfl⟩ := hrel
      by_cases hlt : k < ss.length
      · have hi := h.idx k hlt
        have hc := h.cell k hlt
        have hz := h.at hlt
        unfold maxLen at hz
        generalize ss.getD k ByteArray.empty = s at *
        go_wp2
        · go_ret
          exact ⟨false, rfl, rfl⟩
        · go_ret
          exact ⟨false, rfl, rfl⟩
        · go_round
          case rel => exact ⟨k + 1, t + s.size, by omega, by omega, by go_num, by go_num⟩
          case measure => simp [intOf]; omega
      · go_wp2
        go_ret
        exact ⟨true, rfl, rfl⟩
  · go_enter Try.func11, Try.ntmps11
    go_wp2
    go_ret
    exact ⟨false, rfl, rfl⟩

set_option maxRecDepth 100000 in
set_option maxHeartbeats 400000 in
theorem zzBytesFlat_any (w : World) (A : Option Addr) (cap : Nat) (ad : Nat → Addr) (ss : List ByteArray) (h : Strs w A cap ad ss) :
    Calls Try.prog 18 #[.slice A ss.length cap] w (SomeBool w) := by
  have hlen := h.len
  unfold maxLen at hlen
  by_cases h20 : ss.length ≤ 1048576
  · have h20' : (ss.length : Int) ≤ 1048576 := by omega
    go_enter Try.func18, Try.ntmps18
    go_wp2
    go_loop [3, 4] (fun z i => ∃ (k : Nat) (t : Nat), k ≤ ss.length ∧ t ≤ 1048576 ∧ z = .int .i64 t ∧ i = .int .i64 k) (fun z i => ss.length - (intOf i).toNat)
    case atStart => exact ⟨0, ss.length, by omega, by omega, rfl, rfl⟩
    case round =>
      obtain ⟨k, t, hk, ht, rfl, rfl⟩ := hrel
      by_cases hlt : k < ss.length
      · have hi := h.idx k hlt
        have hc := h.cell k hlt
        have hz := h.at hlt
        unfold maxLen at hz
        generalize ss.getD k ByteArray.empty = s at *
        go_wp2
        · go_ret
          exact ⟨false, rfl, rfl⟩
        · go_ret
          exact ⟨false, rfl, rfl⟩
        · go_round
          case rel => exact ⟨k + 1, t + s.size, by omega, by omega, by go_num, by go_num⟩
          case measure => simp [intOf]; omega
      · go_wp2
        go_ret
        exact ⟨true, rfl, rfl⟩
  · go_enter Try.func18, Try.ntmps18
    go_wp2
    go_ret
    exact ⟨false, rfl, rfl⟩

theorem make29 (n : Nat) (hn : n ≤ 4096) (W : World) : (Instr.makeSlice 29 (.int .i64 (n : Int)) (.int .i64 (n : Int))).run Try.prog W = .ok (.slice (some ⟨W.heap.size, 0, none⟩) n n) (W.alloc (.cells (List.replicate n (Value.string ⟨#[]⟩)).toArray 9)) := by
  obtain ⟨i, hi, h0, h1, h2⟩ := info_parts (show (Try.prog.info? 9).map (fun i => (i.zero, i.size, i.bytes)) = some (some (.string ⟨#[]⟩), 1, 16) by kernel_rfl)
  rw [run_make W 29 9 i _ Try.underlying29 hi h0 .i64 .i64 n n (by omega) (by omega) (by rw [h2]; omega) (by omega), h1]
  have e : madeCells (Value.string ⟨#[]⟩).cells (n * 1) = (List.replicate n (Value.string ⟨#[]⟩)).toArray := by
    apply Array.ext_getElem?
    intro j
    by_cases hj : j < n
    · simp [madeCells, Value.cells, hj, Nat.mod_one]
    · simp [madeCells, Value.cells, hj]
  simp only [Int.toNat_natCast, e]

/-- block b is a row of cells -/
def Row (w : World) (b : Nat) (t : TypeId) (l : List Value) : Prop := w.heap[b]? = some (.cells l.toArray t)
theorem Row.lt {w : World} {b : Nat} {t : TypeId} {l : List Value} (h : Row w b t l) : b < w.heap.size := (Array.getElem?_eq_some_iff.1 h).1
theorem Row.cell {w : World} {b : Nat} {t : TypeId} {l : List Value} (h : Row w b t l) (i : Nat) : w.cell? ⟨b, i, none⟩ = l[i]? := by simp [World.cell?, show w.heap[b]? = _ from h]
theorem Row.free {w : World} {b : Nat} {t : TypeId} {l : List Value} (h : Row w b t l) (i : Nat) : w.frozen? ⟨b, i, none⟩ = false := by simp [World.frozen?, show w.heap[b]? = _ from h]
theorem Row.of_block {w w' : World} {b : Nat} {t : TypeId} {l : List Value} (h : Row w b t l) (he : w'.heap[b]? = w.heap[b]?) : Row w' b t l := he.trans h
theorem Row.set {w : World} {b : Nat} {t : TypeId} {l : List Value} (h : Row w b t l) (i : Nat) (v : Value) : Row (w.setCell ⟨b, i, none⟩ v) b t (l.set i v) := by
  have hlt := h.lt
  unfold Row at h ⊢
  simp [World.setCell, Array.getElem?_modify, h]
theorem row_new (w : World) (t : TypeId) (l : List Value) : Row (w.alloc (.cells l.toArray t)) w.heap.size t l := by
  unfold Row
  show (w.heap.push _)[w.heap.size]? = _
  simp

theorem idx29 (b n cap k : Nat) (hk : k < n) (W : World) : (Instr.indexAt 29 (.slice (some ⟨b, 0, none⟩) n cap) (.int .i64 (k : Int))).run Try.prog W = .ok (.pointer (some ⟨b, k, none⟩)) W := by
  have hu : Try.prog.underlying 29 = some (.slice (Try.prog.elem 29)) := by kernel_rfl
  have hE : Try.prog.elem 29 = 9 := by kernel_rfl
  have hs : (Go.sizeOf 9).run Try.prog W = .ok 1 W := by kernel_rfl
  rw [run_indexAt_slice W 29 _ n cap .i64 k hu, if_pos (by omega), hE, hs]
  simp [Result.andThen, Addr.add]
  omega

/-- a made []string row, k of its cells filled -/
def filled (ss : List ByteArray) (k : Nat) : List Value := (ss.take k).map Value.string ++ List.replicate (ss.length - k) (Value.string ⟨#[]⟩)
theorem filled_zero (ss : List ByteArray) : filled ss 0 = List.replicate ss.length (Value.string ⟨#[]⟩) := by simp [filled]
theorem filled_all (ss : List ByteArray) : filled ss ss.length = ss.map Value.string := by simp [filled]
theorem filled_len (ss : List ByteArray) (k : Nat) (hk : k ≤ ss.length) : (filled ss k).length = ss.length := by simp [filled]; omega
theorem filled_step (ss : List ByteArray) (k : Nat) (hk : k < ss.length) : (filled ss k).set k (.string (ss.getD k ByteArray.empty)) = filled ss (k + 1) := by
  apply List.ext_getElem?
  intro j
  have hgd : ss.getD k ByteArray.empty = ss[k] := by rw [List.getD_eq_getElem?_getD, List.getElem?_eq_getElem hk]; rfl
  rw [hgd]
  have hl : (ss.take k).length = k := by simp; omega
  have hl' : (ss.take (k + 1)).length = k + 1 := by simp; omega
  unfold filled
  rw [List.getElem?_set]
  by_cases hj : k = j
  · subst hj
    rw [if_pos rfl, if_pos (by simp; omega), List.getElem?_append_left (by simp; omega)]
    simp [hk]
  · rw [if_neg hj]
    by_cases hj2 : j < k
    · rw [List.getElem?_append_left (by simp; omega), List.getElem?_append_left (by simp; omega)]
      simp [hj2, show j < k + 1 by omega]
    · rw [List.getElem?_append_right (by simp; omega), List.getElem?_append_right (by simp; omega)]
      simp only [List.length_map, hl, hl', List.getElem?_replicate]
      congr 1
      simp
      omega

theorem copy_nil (w : World) : Calls Try.prog 12 #[.slice none 0 0] w fun e w' => e = .returned (.slice none 0 0) ∧ w' = w := by
  have he := fun W a n c => Lib.run_eql_slice_nil (P := Try.prog) W 29 9 a n c 0 0 Try.underlying29
  go_enter Try.func12, Try.ntmps12
  go_wp2
  go_ret
  exact ⟨rfl, rfl⟩

set_option maxRecDepth 100000 in
set_option maxHeartbeats 400000 in
theorem copy_some (w : World) (a : Addr) (cap : Nat) (ad : Nat → Addr) (ss : List ByteArray) (h : Strs w (some a) cap ad ss) (h4 : ss.length ≤ 4096) :
    Calls Try.prog 12 #[.slice (some a) ss.length cap] w fun e w' => e = .returned (.slice (some ⟨w.heap.size, 0, none⟩) ss.length ss.length) ∧
      Row w' w.heap.size 9 (ss.map Value.string) ∧ w'.heap.size = w.heap.size + 1 ∧ Below w.heap.size w w' := by
  have he := fun W a n c => Lib.run_eql_slice_nil (P := Try.prog) W 29 9 a n c 0 0 Try.underlying29
  have hmk := make29 ss.length h4
  have h4' : (ss.length : Int) ≤ 4096 := by omega
  go_enter Try.func12, Try.ntmps12
  go_wp2
  go_loopw [4] (fun i w' => ∃ k : Nat, k ≤ ss.length ∧ i = .int .i64 k ∧ Row w' w.heap.size 9 (filled ss k) ∧ w'.heap.size = w.heap.size + 1 ∧ Below w.heap.size w w') (fun i w' => ss.length - (intOf i).toNat)
  case atStart => exact ⟨0, by omega, rfl, by rw [filled_zero]; exact row_new _ _ _, by simp, (Below.refl _ _).alloc (Nat.le_refl _) _⟩
  case round =>
    obtain ⟨k, hk, rfl, hrow, hsz, hb⟩ := hrel
    by_cases hlt : k < ss.length
    · have hi := h.idx k hlt
      have hi2 := idx29 w.heap.size ss.length ss.length k hlt
      have hc := (h.below hb).cell k hlt
      have hst := filled_step ss k hlt
      have HROW : Hid (Row wr w.heap.size 9 (filled ss k)) := hrow
      have hc2 := hrow.cell k
      rw [List.getElem?_eq_getElem (by rw [filled_len ss k hk]; exact hlt)] at hc2
      have hf2 := hrow.free k
      have HSZ : Hid (wr.heap.size = w.heap.size + 1) := hsz
      generalize ss.getD k ByteArray.empty = s at *
      have HST : Hid ((filled ss k).set k (.string s) = filled ss (k + 1)) := hst
      clear hrow hsz hst
      go_wp2
      go_roundw
      case rel => exact ⟨k + 1, by omega, by go_num, by rw [← HST.out]; exact HROW.out.set k _, by simp [World.setCell, HSZ.out], hb.setCell (Nat.le_refl _) _⟩
      case measure => simp [intOf]; omega
    · go_wp2
      go_ret
      obtain rfl : k = ss.length := by omega
      rw [filled_all] at hrow
      exact ⟨rfl, hrow, hsz, hb⟩

set_option maxHeartbeats 400000 in
theorem newPlace_any (w : World) : Calls Try.prog 13 #[] w fun e w' => e = .returned (.pointer (some ⟨w.heap.size, 0, none⟩)) ∧ w' = w.alloc newNode := by
  go_enter Try.func13, Try.ntmps13
  go_wp2
  go_ret
  exact ⟨rfl, rfl⟩

set_option maxHeartbeats 400000 in
theorem zzAt_of {p : Option Addr} {s : ByteArray} {w : World} {v : Value} {Q : World → Prop} (h : Calls Try.prog 21 #[.pointer p, .string s] w fun e w' => e = .returned v ∧ Q w') :
    Calls Try.prog 14 #[.pointer p, .string s] w fun e w' => e = .returned v ∧ Q w' := by
  have H : Hid (Calls Try.prog 21 #[.pointer p, .string s] w fun e w' => e = .returned v ∧ Q w') := h
  clear h
  go_enter Try.func14, Try.ntmps14
  go_wp2_with fail
  refine H.out.mono ?_
  rintro e w1 ⟨rfl, hq⟩
  go_wp2
  go_ret
  exact ⟨rfl, hq⟩

set_option maxHeartbeats 400000 in
theorem line_any (w : World) (b : Nat) (m : Option Nat) (h : NodeAt w b m) : Calls Try.prog 15 #[.pointer (some ⟨b, 0, none⟩)] w fun e w' => e = .returned (.int .i64 0) ∧ w' = w := by
  have h1 := h.cell1
  clear h
  go_enter Try.func15, Try.ntmps15
  go_wp2
  go_ret
  exact ⟨rfl, rfl⟩

set_option maxHeartbeats 400000 in
theorem text_any (w : World) (b : Nat) (m : Option Nat) (h : NodeAt w b m) : Calls Try.prog 16 #[.pointer (some ⟨b, 0, none⟩)] w fun e w' => e = .returned (.string ⟨#[]⟩) ∧ w' = w := by
  have h1 := h.cell2
  clear h
  go_enter Try.func16, Try.ntmps16
  go_wp2
  go_ret
  exact ⟨rfl, rfl⟩

set_option maxHeartbeats 400000 in
theorem len_nil (w : World) (b : Nat) (h : NodeAt w b none) : Calls Try.prog 17 #[.pointer (some ⟨b, 0, none⟩)] w fun e w' => e = .returned (.int .i64 0) ∧ w' = w := by
  have h1 := h.cell0
  have hl := fun W ty => Maps.len_nil (P := Try.prog) (w := W) Try.underlying39 ty
  clear h
  go_enter Try.func17, Try.ntmps17
  go_wp2
  go_ret
  exact ⟨rfl, rfl⟩

set_option maxHeartbeats 400000 in
theorem len_some (w : World) (b M n : Nat) (f : List UInt8 → Option Nat) (h : NodeAt w b (some M)) (hm : MapIs w M f n) : Calls Try.prog 17 #[.pointer (some ⟨b, 0, none⟩)] w fun e w' => e = .returned (.int .i64 n) ∧ w' = w := by
  have h1 := h.cell0
  have hl := fun ty => hm.len ty
  clear h hm
  go_enter Try.func17, Try.ntmps17
  go_wp2
  go_ret
  exact ⟨rfl, rfl⟩
end Go.Proofs.Qxb6600116a.Pl
