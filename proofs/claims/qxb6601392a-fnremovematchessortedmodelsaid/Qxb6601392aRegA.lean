import Derived.Test.Qxb6601392aRow
namespace Go.Proofs.Qxb6601392a.Bt
open Go.RowKit

/-- the region of a number, taken out of a code -/
def regOf (k : Nat) : Code → Option Code
  | .region id ops d => if id = k then some (.region id ops d) else none
  | .seq a b => match regOf k a with
    | some c => some c
    | none => regOf k b
  | .cond _ a b => match regOf k a with
    | some c => some c
    | none => regOf k b
  | .block _ c => regOf k c
  | .loop c => regOf k c
  | .scope c => regOf k c
  | _ => none

theorem then_of {c : Code} {K : Act → World → Prop} {Q : Exit → Act → World → Prop} {a : Act} {w : World} (h : c.wp Try.prog (Exit.then K (fun _ _ _ => False)) a w) : c.wp Try.prog (Exit.then K Q) a w :=
  wp_mono h (fun e _ _ h => by cases e <;> first | exact h | exact h.elim)

set_option maxRecDepth 1000000 in
set_option maxHeartbeats 20000000 in
theorem grow_reg3 {w wA wB : World} {b g cap lb rb gr nr cr i2 nI : Nat} {x : It} {Al A1 A2 : Option Addr} {nl cl n1 c1 n2 c2 : Nat} {K : Act → World → Prop} {Q : Exit → Act → World → Prop}
    (_h0 : (i2 : Int) < (nI : Int)) (_hn : (nI : Int) ≤ 10000) (_x59 : ∀ W, (Instr.indexAt 59 (.slice (some ⟨g, 0, none⟩) nI cap) (.int .i64 (i2 : Int))).run Try.prog W = .ok (.pointer (some ⟨g, i2 * 3, none⟩)) W)
    (a1 : w.cell? ⟨b, 1, none⟩ = some (.slice (some ⟨g, 0, none⟩) nI cap)) (a2 : w.cell? ⟨g, i2 * 3, none⟩ = some (.string x.k)) (a3 : w.cell? ⟨g, i2 * 3 + 1, none⟩ = some (.string x.v)) (a4 : w.cell? ⟨g, i2 * 3 + 2, none⟩ = some (.int .u64 x.r))
    (l1 : w.cell? ⟨lb, 1, none⟩ = some (.slice Al nl cl)) (rr : w.cell? ⟨rb, 1, none⟩ = some (.slice (some ⟨gr, 0, none⟩) nr cr)) (rA : wA.cell? ⟨rb, 1, none⟩ = some (.slice (some ⟨gr, 0, none⟩) nr cr)) (lB : wB.cell? ⟨lb, 1, none⟩ = some (.slice Al nl cl)) (lBf : wB.frozen? ⟨lb, 1, none⟩ = false)
    (_hbl : b < w.heap.size) (_hgl : g < w.heap.size) (_hll : lb < w.heap.size) (_hrl : rb < w.heap.size)
    (hA1 : (Builtin.append_ #[59, 59] 59 #[.slice Al nl cl, .slice (some ⟨w.heap.size, 0, none⟩) 1 1]).run Try.prog (w.alloc (.cells #[.string x.k, .string x.v, .int .u64 x.r] 75)).drew = .ok (.slice A1 n1 c1) wA)
    (hA2 : (Builtin.append_ #[59, 59] 59 #[.slice A1 n1 c1, .slice (some ⟨gr, 0, none⟩) nr cr]).run Try.prog wA = .ok (.slice A2 n2 c2) wB)
    (u2 u3 u4 u5 u6 u7 u8 u9 u10 u11 u12 u13 u16 u17 u18 u19 u20 u21 u22 u23 u24 u25 u26 u27 u28 u29 u30 u31 u32 u33 u34 u35 u36 u37 u38 u39 u40 u41 u42 u43 u44 u45 u46 u47 u48 u49 u50 u51 u52 u53 u54 u55 u56 u57 u58 u59 u60 u61 u62 : Value) (r : List Value)
    (hK : ∀ v42 v43 v44 v45 v46 v47 v48 v49 v50 v51 v52 v53 v54 v55 v56 v57 v58 v59 v60 v61 v62 : Value, K ⟨(.pointer (some ⟨b, 0, none⟩) :: .int .i64 (i2 : Int) :: u2 :: u3 :: u4 :: u5 :: u6 :: u7 :: u8 :: u9 :: u10 :: u11 :: u12 :: u13 :: .pointer (some ⟨lb, 0, none⟩) :: .pointer (some ⟨rb, 0, none⟩) :: u16 :: u17 :: u18 :: u19 :: u20 :: u21 :: u22 :: u23 :: u24 :: u25 :: u26 :: u27 :: u28 :: u29 :: u30 :: u31 :: u32 :: u33 :: u34 :: u35 :: u36 :: u37 :: u38 :: u39 :: u40 :: u41 :: v42 :: v43 :: v44 :: v45 :: v46 :: v47 :: v48 :: v49 :: v50 :: v51 :: v52 :: v53 :: v54 :: v55 :: v56 :: v57 :: v58 :: v59 :: v60 :: v61 :: v62 :: r).toArray, []⟩ (wB.setCell ⟨lb, 1, none⟩ (.slice A2 n2 c2))) :
    Code.wp Try.prog ((Try.f44.body.bind (regOf 3)).getD .skip) (Exit.then K Q) ⟨(.pointer (some ⟨b, 0, none⟩) :: .int .i64 (i2 : Int) :: u2 :: u3 :: u4 :: u5 :: u6 :: u7 :: u8 :: u9 :: u10 :: u11 :: u12 :: u13 :: .pointer (some ⟨lb, 0, none⟩) :: .pointer (some ⟨rb, 0, none⟩) :: u16 :: u17 :: u18 :: u19 :: u20 :: u21 :: u22 :: u23 :: u24 :: u25 :: u26 :: u27 :: u28 :: u29 :: u30 :: u31 :: u32 :: u33 :: u34 :: u35 :: u36 :: u37 :: u38 :: u39 :: u40 :: u41 :: u42 :: u43 :: u44 :: u45 :: u46 :: u47 :: u48 :: u49 :: u50 :: u51 :: u52 :: u53 :: u54 :: u55 :: u56 :: u57 :: u58 :: u59 :: u60 :: u61 :: u62 :: r).toArray, []⟩ w := by
  refine then_of ?_
  conv => arg 2; whnf
  go_region_law (first | (refine step_append_run rfl _ _ 59 59 rfl _ _ (by simp [Act.eval]) (by simp [Act.eval]) hA1 ?_) | (refine step_append_run rfl _ _ 59 59 rfl _ _ (by simp [Act.eval]) (by simp [Act.eval]) hA2 ?_))
  all_goals exact hK _ _ _ _ _ _ _ _ _ _ _ _ _ _ _ _ _ _ _ _ _
end Go.Proofs.Qxb6601392a.Bt
