import Derived.Test.Qxb6601392aRegA
namespace Go.Proofs.Qxb6601392a.Bt
open Go.RowKit

set_option maxRecDepth 1000000 in
set_option maxHeartbeats 20000000 in
theorem grow_reg5 {w : World} {b lb rb i2 g cap nI pl pr pl' : Nat} {v : ByteArray} (hv : v.size ≤ 1048576) {K : Act → World → Prop} {Q : Exit → Act → World → Prop}
    (_h0 : (i2 : Int) < (nI : Int)) (_hn : (nI : Int) ≤ 10000) (_x59 : ∀ W, (Instr.indexAt 59 (.slice (some ⟨g, 0, none⟩) nI cap) (.int .i64 (i2 : Int))).run Try.prog W = .ok (.pointer (some ⟨g, i2 * 3, none⟩)) W)
    (t1 : w.cell? ⟨b, 1, none⟩ = some (.slice (some ⟨g, 0, none⟩) nI cap)) (v6 : w.cell? ⟨g, i2 * 3 + 1, none⟩ = some (.string v)) (l3 : w.cell? ⟨lb, 3, none⟩ = some (.int .i64 (pl : Int))) (l3f : w.frozen? ⟨lb, 3, none⟩ = false) (r3 : w.cell? ⟨rb, 3, none⟩ = some (.int .i64 (pr : Int)))
    (_hp1 : (0 : Int) ≤ (pr : Int)) (_hp2 : (pr : Int) ≤ 4611686018427387904) (hwa : IntKind.i64.wrap (1 + (pr : Int)) = 1 + (pr : Int)) (hwb : IntKind.i64.wrap ((pl : Int) + (1 + (pr : Int))) = (pl' : Int))
    (u2 u3 u4 u5 u6 u7 u8 u9 u10 u11 u12 u13 u16 u17 u18 u19 u20 u21 u22 u23 u24 u25 u26 u27 u28 u29 u30 u31 u32 u33 u34 u35 u36 u37 u38 u39 u40 u41 u42 u43 u44 u45 u46 u47 u48 u49 u50 u51 u52 u53 u54 u55 u56 u57 u58 u59 u60 u61 u62 u63 u64 u65 u66 u67 u68 u69 u70 u71 u72 u73 u74 u75 u76 u77 u78 u79 u80 u81 u82 u83 u84 u85 u86 u87 u88 u89 u90 u91 u92 u93 u94 u95 u96 : Value) (r : List Value)
    (hK : ∀ v75 v76 v77 v78 v79 v80 v81 v82 v83 v84 v85 v86 v87 v88 v89 v90 v91 v92 v93 v94 v95 v96 : Value, K ⟨(.pointer (some ⟨b, 0, none⟩) :: .int .i64 (i2 : Int) :: u2 :: u3 :: u4 :: u5 :: u6 :: u7 :: u8 :: u9 :: u10 :: u11 :: u12 :: u13 :: .pointer (some ⟨lb, 0, none⟩) :: .pointer (some ⟨rb, 0, none⟩) :: u16 :: u17 :: u18 :: u19 :: u20 :: u21 :: u22 :: u23 :: u24 :: u25 :: u26 :: u27 :: u28 :: u29 :: u30 :: u31 :: u32 :: u33 :: u34 :: u35 :: u36 :: u37 :: u38 :: u39 :: u40 :: u41 :: u42 :: u43 :: u44 :: u45 :: u46 :: u47 :: u48 :: u49 :: u50 :: u51 :: u52 :: u53 :: u54 :: u55 :: u56 :: u57 :: u58 :: u59 :: u60 :: u61 :: u62 :: u63 :: u64 :: u65 :: u66 :: u67 :: u68 :: u69 :: u70 :: u71 :: u72 :: u73 :: u74 :: v75 :: v76 :: v77 :: v78 :: v79 :: v80 :: v81 :: v82 :: v83 :: v84 :: v85 :: v86 :: v87 :: v88 :: v89 :: v90 :: v91 :: v92 :: v93 :: v94 :: v95 :: v96 :: r).toArray, []⟩ (w.setCell ⟨lb, 3, none⟩ (.int .i64 (pl' : Int))).drew) :
    Code.wp Try.prog ((Try.f44.body.bind (regOf 5)).getD .skip) (Exit.then K Q) ⟨(.pointer (some ⟨b, 0, none⟩) :: .int .i64 (i2 : Int) :: u2 :: u3 :: u4 :: u5 :: u6 :: u7 :: u8 :: u9 :: u10 :: u11 :: u12 :: u13 :: .pointer (some ⟨lb, 0, none⟩) :: .pointer (some ⟨rb, 0, none⟩) :: u16 :: u17 :: u18 :: u19 :: u20 :: u21 :: u22 :: u23 :: u24 :: u25 :: u26 :: u27 :: u28 :: u29 :: u30 :: u31 :: u32 :: u33 :: u34 :: u35 :: u36 :: u37 :: u38 :: u39 :: u40 :: u41 :: u42 :: u43 :: u44 :: u45 :: u46 :: u47 :: u48 :: u49 :: u50 :: u51 :: u52 :: u53 :: u54 :: u55 :: u56 :: u57 :: u58 :: u59 :: u60 :: u61 :: u62 :: u63 :: u64 :: u65 :: u66 :: u67 :: u68 :: u69 :: u70 :: u71 :: u72 :: u73 :: u74 :: u75 :: u76 :: u77 :: u78 :: u79 :: u80 :: u81 :: u82 :: u83 :: u84 :: u85 :: u86 :: u87 :: u88 :: u89 :: u90 :: u91 :: u92 :: u93 :: u94 :: u95 :: u96 :: r).toArray, []⟩ w := by
  refine then_of ?_
  conv => arg 2; whnf
  go_region_with (go_at_call 54; refine (pieces_one _ hv _).mono ?_; rintro e w' ⟨rfl, rfl⟩)
  all_goals exact hK _ _ _ _ _ _ _ _ _ _ _ _ _ _ _ _ _ _ _ _ _ _
end Go.Proofs.Qxb6601392a.Bt
